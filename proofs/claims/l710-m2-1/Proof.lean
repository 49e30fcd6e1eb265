import JvmDerived
import JvmDerived.Pilot.@@N@@Statement
import JvmDerived.Pilot.@@N@@Code
set_option linter.unusedVariables false
set_option linter.unusedSimpArgs false
namespace Jvm.RoadKit
open Sem ClassFile Op Lib Jvm.Stand Jvm.Free Jvm.LawKit
section New
variable {p : Program} {l : Launch} {e : Env} {R : Room} {s : State} {m : MethodId} {args : Array Value} {below : List Frame} {meth : Method} {c : Code} {T : State} {locs : List Loc} {cells slots : Nat}
theorem retI (X : Stand p l e R s m args below meth c T locs cells slots) (hx : p.tables.exec = Jvm.exec) {pc : Nat} {Ls : Array Slot} {z : Int32} {rest : List Value} (hret : meth.sig.returnType = some .int) (hd : decode c.code pc = .ok (.ireturn, 1)) {fs : List Frame}
    (hl : ∀ (f : JFrame) (acts : List Action), f.method = m → f.locked = none → f.entered = [] → (doReturn e (T.setTop f) acts (some (.int z))).1 = T.setFrames fs) : Steps p.tables e below (T.setTop (mkF m pc Ls (.int z :: rest))) (T.setFrames fs) := by
  have hm' : T.vm.method? m = some meth := X.method'
  have hn : narrow .int (.int z) = .int z := rfl
  show Steps p.tables e below (T.setTop { method := m, pc := pc, locals := Ls, stack := _ :: rest, locked := none }) _
  jvm_step X.here [X.here.top, hx, hd, hm', hret, hn]
  first | (intro acts; rw [hl _ acts rfl rfl rfl]) | rw [hl _ _ rfl rfl rfl]
  exact Steps.refl _
/-- from the state A the body comes to its end, and Q holds there -/
def own_G (tb : Tables) (e : Env) (below : List Frame) (Q : Outcome → State → Prop) (A : State) : Prop := ∃ s₂ o, Steps tb e below A s₂ ∧ s₂.status = .running ∧ Ended s₂ below o ∧ Q o s₂
theorem own_fs {tb : Tables} {Q : Outcome → State → Prop} {A B : State} (h : Steps tb e below A B) (g : own_G tb e below Q B) : own_G tb e below Q A := by
  obtain ⟨s₂, o, h1, r⟩ := g
  exact ⟨s₂, o, h.trans h1, r⟩
/-- what a body's contract says of its end -/
def own_P (s : State) (QQ : Option Value → Heap → List Loc → Prop) (rc rs : Nat) (o : Outcome) (U : State) : Prop := ∃ v L, o = .returned v ∧ QQ v U.heap L ∧ FrameEnd s o U L rc rs
variable {QQ : Option Value → Heap → List Loc → Prop} {rc rs : Nat} {h : Heap}
theorem own_start {tb : Tables} {g g' : JFrame} (q : g = g') (k : own_G tb e below (own_P s QQ rc rs) (T.setTop g')) : ∃ s₂ o, Steps tb e below (T.setTop g) s₂ ∧ s₂.status = .running ∧ Ended s₂ below o ∧ ∃ v L, o = .returned v ∧ QQ v s₂.heap L ∧ FrameEnd s o s₂ L rc rs := q ▸ k
theorem own_retI (X : Stand p l e R s m args below meth c T locs cells slots) (hx : p.tables.exec = Jvm.exec) {pc : Nat} {Ls : Array Slot} {z : Int32} {rest : List Value} (hret : meth.sig.returnType = some .int) (hlk : meth.locks = false) (hd : decode c.code pc = .ok (.ireturn, 1)) (hc : cells ≤ rc) (hs : slots ≤ rs) (eT : T.heap = h) (hQ : QQ (some (.int z)) h locs) :
    own_G p.tables e below (own_P s QQ rc rs) (T.setTop (mkF m pc Ls (.int z :: rest))) := by
  obtain ⟨fs, hr, hrun, hended, hW, hsame⟩ := X.leave (v := some (.int z)) (fun h => by rw [hret] at h; cases h) hlk
  exact ⟨_, _, retI X hx hret hd hr, hrun, hended, _, _, rfl, (by show QQ _ T.heap _; rw [eT]; exact hQ), ⟨_, rfl⟩, hW, hsame.mono hc hs⟩
theorem own_retN (X : Stand p l e R s m args below meth c T locs cells slots) (hx : p.tables.exec = Jvm.exec) {pc : Nat} {Ls : Array Slot} {z : Int32} {t : FieldType} {rest : List Value} (hret : meth.sig.returnType = some t) (hlk : meth.locks = false) (ht : t = .boolean ∨ t = .byte ∨ t = .char ∨ t = .short) (hd : decode c.code pc = .ok (.ireturn, 1)) (hc : cells ≤ rc) (hs : slots ≤ rs) (eT : T.heap = h) (hQ : QQ (some (.int (nar t z))) h locs) :
    own_G p.tables e below (own_P s QQ rc rs) (T.setTop (mkF m pc Ls (.int z :: rest))) := by
  obtain ⟨fs, hr, hrun, hended, hW, hsame⟩ := X.leave (v := some (.int (nar t z))) (fun h => by rw [hret] at h; cases h) hlk
  exact ⟨_, _, retN X hx hret ht hd hr, hrun, hended, _, _, rfl, (by show QQ _ T.heap _; rw [eT]; exact hQ), ⟨_, rfl⟩, hW, hsame.mono hc hs⟩
theorem own_retJ (X : Stand p l e R s m args below meth c T locs cells slots) (hx : p.tables.exec = Jvm.exec) {pc : Nat} {Ls : Array Slot} {z : Int64} {rest : List Value} (hret : meth.sig.returnType = some .long) (hlk : meth.locks = false) (hd : decode c.code pc = .ok (.lreturn, 1)) (hc : cells ≤ rc) (hs : slots ≤ rs) (eT : T.heap = h) (hQ : QQ (some (.long z)) h locs) :
    own_G p.tables e below (own_P s QQ rc rs) (T.setTop (mkF m pc Ls (.long z :: rest))) := by
  obtain ⟨fs, hr, hrun, hended, hW, hsame⟩ := X.leave (v := some (.long z)) (fun h => by rw [hret] at h; cases h) hlk
  exact ⟨_, _, retOut X hx hret rfl (Or.inr (Or.inl ⟨rfl, rfl, z, rfl⟩)) hd hr, hrun, hended, _, _, rfl, (by show QQ _ T.heap _; rw [eT]; exact hQ), ⟨_, rfl⟩, hW, hsame.mono hc hs⟩
theorem own_narR {t : FieldType} {w : Value} (hw : w.isRef = true) : narrow t w = w := by rcases ref_cases hw with rfl | ⟨a, rfl⟩ <;> cases t <;> rfl
theorem own_fitR {t : FieldType} {w : Value} (hw : w.isRef = true) (ht : t.isReference = true := by rfl) : fits t w = true := by rcases ref_cases hw with rfl | ⟨a, rfl⟩ <;> cases t <;> first | rfl | cases ht
theorem own_retA (X : Stand p l e R s m args below meth c T locs cells slots) (hx : p.tables.exec = Jvm.exec) {pc : Nat} {Ls : Array Slot} {w : Value} {t : FieldType} {rest : List Value} (hret : meth.sig.returnType = some t) (hlk : meth.locks = false) (ht : t.isReference = true) (hw : w.isRef = true) (hd : decode c.code pc = .ok (.areturn, 1)) (hc : cells ≤ rc) (hs : slots ≤ rs) (eT : T.heap = h) (hQ : QQ (some w) h locs) :
    own_G p.tables e below (own_P s QQ rc rs) (T.setTop (mkF m pc Ls (w :: rest))) := by
  obtain ⟨fs, hr, hrun, hended, hW, hsame⟩ := X.leave (v := some w) (fun h => by rw [hret] at h; cases h) hlk
  exact ⟨_, _, retOut X hx hret (own_narR hw) (Or.inr (Or.inr (Or.inr (Or.inr ⟨rfl, ht, hw⟩)))) hd hr, hrun, hended, _, _, rfl, (by show QQ _ T.heap _; rw [eT]; exact hQ), ⟨_, rfl⟩, hW, hsame.mono hc hs⟩
theorem own_retV (X : Stand p l e R s m args below meth c T locs cells slots) (hx : p.tables.exec = Jvm.exec) {pc : Nat} {Ls : Array Slot} (hret : meth.sig.returnType = none) (hlk : meth.locks = false) (hd : decode c.code pc = .ok (.return_, 1)) (hc : cells ≤ rc) (hs : slots ≤ rs) (eT : T.heap = h) (hQ : QQ none h locs) :
    own_G p.tables e below (own_P s QQ rc rs) (T.setTop (mkF m pc Ls [])) := by
  obtain ⟨fs, hr, hrun, hended, hW, hsame⟩ := X.leave (v := none) (fun _ => rfl) hlk
  exact ⟨_, _, X.returnOut hx hret hd hr, hrun, hended, _, _, rfl, (by show QQ _ T.heap _; rw [eT]; exact hQ), ⟨_, rfl⟩, hW, hsame.mono hc hs⟩
theorem own_nar0 : nar .boolean (0 : Int32) = (0 : Int32) := rfl
theorem own_nar1 : nar .boolean (1 : Int32) = (1 : Int32) := rfl
theorem own_nar1s : some (Value.int (nar .boolean (1 : Int32))) = some (Value.int (1 : Int32)) := rfl
end New
end Jvm.RoadKit
/- laws to paste: Road.backV (cut by pick.py; bodies as the Statement names them) -/
namespace Jvm.Pilot.@@N@@
namespace StrChars
open Jvm Sem ClassFile Op Lib Jvm.Stand Jvm.Free.XT Jvm.Free.ALB Jvm.Free.JM Jvm.Free
open Jvm.Lib.Cold (StaticIs)
/-- a char array whose places are chars -/
def Ch (a : Addr) (A : Cell) (U : State) : Prop := Arr .char a A U ∧ Typed .char A
theorem Ch.mv {a : Addr} {A : Cell} {U U' : State} (h : Ch a A U) (hal : U.vm.Alike U'.vm) (hh : U'.heap = U.heap) : Ch a A U' := ⟨h.1.mv hal hh, h.2⟩
theorem Ch.keep {a : Addr} {A : Cell} {U U' : State} (h : Ch a A U) (hal : U.vm.Alike U'.vm) (hk : U'.heap[a]? = some A) : Ch a A U' := ⟨h.1.keep hal hk, h.2⟩
/-- what place i of a char[]'s cell holds -/
def cv (A : Cell) (i : Nat) : Int32 := match A.slots[i]? with | some (.int x) => x | _ => 0
theorem Ch.get {a : Addr} {A : Cell} {U : State} (h : Ch a A U) {i : Nat} (hi : i < A.slots.size) : A.slots[i]? = some (.int (cv A i)) := by
  have e := Array.getElem?_eq_getElem hi
  have f := h.2 i _ e
  unfold cv; rw [e]
  generalize A.slots[i] = v at f
  cases v <;> simp [fits] at f ⊢
/-- the byte that i2b leaves of a char -/
def lo8 (x : Int32) : Int32 := x.toInt8.toInt32
theorem fits_lo8 (y : Int32) : fits .byte (.int (lo8 y)) = true := by
  have h1 := y.toInt8.le_toInt
  have h2 := y.toInt8.toInt_lt
  simp only [lo8, fits, Bool.and_eq_true, decide_eq_true_eq, Int32.le_iff_toInt_le, Int8.toInt_toInt32, show (-128 : Int32).toInt = -128 from by decide, show (127 : Int32).toInt = 127 from by decide]
  omega
/-- A' is A but that each place j of lo .. hi - 1 holds f j -/
def Laid (A A' : Cell) (lo hi : Nat) (f : Nat → Value) : Prop := A'.cls = A.cls ∧ A'.vm = A.vm ∧ A'.slots.size = A.slots.size ∧ ∀ i, A'.slots[i]? = if lo ≤ i ∧ i < hi then some (f i) else A.slots[i]?
theorem Laid.zero (A : Cell) (lo : Nat) (f : Nat → Value) : Laid A A lo (lo + 0) f := ⟨rfl, rfl, rfl, fun i => by rw [if_neg (by omega)]⟩
theorem Laid.step {A Ak : Cell} {lo k : Nat} {f : Nat → Value} {v : Value} (h : Laid A Ak lo k f) (hlo : lo ≤ k) (hk : k < Ak.slots.size) (hv : v = f k) : Laid A (Ak.setSlot k v) lo (k + 1) f := by
  refine ⟨h.1, h.2.1, by simpa [Cell.setSlot] using h.2.2.1, fun i => ?_⟩
  by_cases e : k = i
  · subst e; rw [Cell.slots_setSlot_self v hk, if_pos (by omega), hv]
  · rw [Cell.slots_setSlot_ne v e, h.2.2.2 i]
    by_cases q : lo ≤ i ∧ i < k
    · rw [if_pos q, if_pos (by omega)]
    · rw [if_neg q, if_neg (by omega)]
def U16 : String := "java/lang/StringUTF16"
namespace Cmp5
def yN : MethodName := ⟨"java/lang/StringUTF16", "compress", "([CI[BII)I"⟩
abbrev yB : ByteArray := jdk_52_method_21_code
theorem d0 : decode yB 0 = .ok (.iconst 0, 1) := by decide +kernel
theorem d1 : decode yB 1 = .ok (.istore 5, 2) := by decide +kernel
theorem d3 : decode yB 3 = .ok (.iload 5, 2) := by decide +kernel
theorem d5 : decode yB 5 = .ok (.iload 4, 2) := by decide +kernel
theorem d7 : decode yB 7 = .ok (.if_icmp (.ge) 37, 3) := by decide +kernel
theorem d10 : decode yB 10 = .ok (.aload_n 0, 1) := by decide +kernel
theorem d11 : decode yB 11 = .ok (.iload_n 1, 1) := by decide +kernel
theorem d12 : decode yB 12 = .ok (.caload, 1) := by decide +kernel
theorem d13 : decode yB 13 = .ok (.istore 6, 2) := by decide +kernel
theorem d15 : decode yB 15 = .ok (.iload 6, 2) := by decide +kernel
theorem d17 : decode yB 17 = .ok (.sipush 255, 3) := by decide +kernel
theorem d20 : decode yB 20 = .ok (.if_icmp (.le) 6, 3) := by decide +kernel
theorem d26 : decode yB 26 = .ok (.aload_n 2, 1) := by decide +kernel
theorem d27 : decode yB 27 = .ok (.iload_n 3, 1) := by decide +kernel
theorem d28 : decode yB 28 = .ok (.iload 6, 2) := by decide +kernel
theorem d30 : decode yB 30 = .ok (.i2b, 1) := by decide +kernel
theorem d31 : decode yB 31 = .ok (.bastore, 1) := by decide +kernel
theorem d32 : decode yB 32 = .ok (.iinc 1 1, 3) := by decide +kernel
theorem d35 : decode yB 35 = .ok (.iinc 3 1, 3) := by decide +kernel
theorem d38 : decode yB 38 = .ok (.iinc 5 1, 3) := by decide +kernel
theorem d41 : decode yB 41 = .ok (.goto (-38), 3) := by decide +kernel
theorem d44 : decode yB 44 = .ok (.iload 4, 2) := by decide +kernel
theorem d46 : decode yB 46 = .ok (.ireturn, 1) := by decide +kernel
def site : List Cond := []
def tab : Cond := tabOf yN yB 7 (some .int) site
def P (b : Addr) (A : Cell) (d : Addr) (B : Cell) (o q len : Nat) (args : Array Value) (s : State) : Prop := args = #[.ref b, .int (Int32.ofNat o), .ref d, .int (Int32.ofNat q), .int (Int32.ofNat len)] ∧ Ch b A s ∧ Arr .byte d B s ∧ b ≠ d ∧ o + len ≤ A.slots.size ∧ q + len ≤ B.slots.size ∧ ∀ i, i < len → ¬ 255 < cv A (o + i)
def E (b : Addr) (A : Cell) (d : Addr) (B : Cell) (o q len : Nat) (r : Option Value) (s u : State) : Prop := r = some (.int (Int32.ofNat len)) ∧ ∃ B', Put d B' s u ∧ Laid B B' q (q + len) (fun j => Value.int (lo8 (cv A (o + (j - q)))))
/-- no char of the range above 255: len; the places written hold each char's low byte -/
theorem law (l : Launch) (b : Addr) (A : Cell) (d : Addr) (B : Cell) (o q len : Nat) : Law l yN 5 5 0 0 yB 7 (some .int) site (P b A d B o q len) (E b A d B o q len) (copyLocs d q len) 0 0 := by
  refine Law.of_walk (plainFor_of_name (by decide +kernel)) (by decide +kernel) (by decide +kernel) (by decide) (fun _ _ h => by rw [h.1]; rfl) (fun _ U U' hal hh h => ⟨h.1, h.2.1.mv hal hh, h.2.2.1.mv hal hh, h.2.2.2⟩) (fun r U U' V V' h1 hal h2 h => ⟨h.1, h.2.elim fun B' q => ⟨B', q.1.mv h1 h2, q.2⟩⟩) ?_
  intro p e s m args below meth c s₁ X0 hexec hbytes hml hret hlk hnm hown hh0 W hP
  obtain ⟨rfl, hA, hB, hne, l1, l2, hp⟩ := hP
  have c1 : Steps p.tables e below (s₁.setTop (entryFrame m #[.ref b, .int (Int32.ofNat o), .ref d, .int (Int32.ofNat q), .int (Int32.ofNat len)] 7)) (s₁.setTop (mkF m 0 #[.val (.ref b), .val (.int (Int32.ofNat o)), .val (.ref d), .val (.int (Int32.ofNat q)), .val (.int (Int32.ofNat len)), .unset, .unset] [])) := entry rfl
  have hA0 := hA.1.mv X0.warmed.alike hh0
  have hB0 := hB.mv X0.warmed.alike hh0
  have a31 := hA.1.2.2.2
  have c2 : Steps p.tables e below (s₁.setTop (entryFrame m #[.ref b, .int (Int32.ofNat o), .ref d, .int (Int32.ofNat q), .int (Int32.ofNat len)] 7)) (s₁.setTop (mkF m 3 #[.val (.ref b), .val (.int (Int32.ofNat o)), .val (.ref d), .val (.int (Int32.ofNat q)), .val (.int (Int32.ofNat len)), .val (.int 0), .unset] [])) := c1.trans (by
    refine iconstV X0.here hexec rfl 0 (hb hbytes d0) (by decide) ?_
    refine XS.istore X0.here hexec rfl (hb hbytes d1) rfl rfl ?_
    exact Steps.refl _)
  have loop : ∀ (r i : Nat), i + r = len → ∀ (z : Slot), (z = .unset ∨ ∃ w, z = .val w ∧ w.category = 1) → ∀ (Tl : State) (Bk : Cell), Stand p l e { frames := 0, locals := 0, cells := 0, slots := 0 } s m #[.ref b, .int (Int32.ofNat o), .ref d, .int (Int32.ofNat q), .int (Int32.ofNat len)] below meth c Tl ([] ++ copyLocs d q i) 0 0 → Put d Bk s₁ Tl → Laid B Bk q (q + i) (fun j => Value.int (lo8 (cv A (o + (j - q))))) →
      Steps p.tables e below (s₁.setTop (entryFrame m #[.ref b, .int (Int32.ofNat o), .ref d, .int (Int32.ofNat q), .int (Int32.ofNat len)] 7)) (Tl.setTop (mkF m 3 #[.val (.ref b), .val (.int (Int32.ofNat (o + i))), .val (.ref d), .val (.int (Int32.ofNat (q + i))), .val (.int (Int32.ofNat len)), .val (.int (Int32.ofNat i)), z] [])) → ∃ (T' : State) (B' : Cell) (z' : Slot), Stand p l e { frames := 0, locals := 0, cells := 0, slots := 0 } s m #[.ref b, .int (Int32.ofNat o), .ref d, .int (Int32.ofNat q), .int (Int32.ofNat len)] below meth c T' ([] ++ copyLocs d q len) 0 0 ∧ Put d B' s₁ T' ∧ Laid B B' q (q + len) (fun j => Value.int (lo8 (cv A (o + (j - q))))) ∧
      Steps p.tables e below (s₁.setTop (entryFrame m #[.ref b, .int (Int32.ofNat o), .ref d, .int (Int32.ofNat q), .int (Int32.ofNat len)] 7)) (T'.setTop (mkF m 3 #[.val (.ref b), .val (.int (Int32.ofNat (o + len))), .val (.ref d), .val (.int (Int32.ofNat (q + len))), .val (.int (Int32.ofNat len)), .val (.int (Int32.ofNat len)), z'] [])) := by
    intro r
    induction r with
    | zero =>
      intro i hi z hz Tl Bk Xl pl fl cl
      have hil : i = len := by omega
      rw [hil] at Xl fl cl
      exact ⟨Tl, Bk, z, Xl, pl, fl, cl⟩
    | succ r ih =>
      intro i hi z hz Tl Bk Xl pl fl cl
      have all := X0.warmed.alike.symm.trans Xl.warmed.alike
      have hAl := hA0.keep all (pl.other hne hA0.1)
      have hBk := hB0.like all pl.1 fl.1 fl.2.1 fl.2.2.1
      have hlt : q + i < Bk.slots.size := by rw [fl.2.2.1]; omega
      have c3 : Steps p.tables e below (s₁.setTop (entryFrame m #[.ref b, .int (Int32.ofNat o), .ref d, .int (Int32.ofNat q), .int (Int32.ofNat len)] 7)) (Tl.setTop (mkF m 12 #[.val (.ref b), .val (.int (Int32.ofNat (o + i))), .val (.ref d), .val (.int (Int32.ofNat (q + i))), .val (.int (Int32.ofNat len)), .val (.int (Int32.ofNat i)), z] [.int (Int32.ofNat (o + i)), .ref b])) := cl.trans (by
        refine XS.iload Xl.here hexec rfl (hb hbytes d3) rfl ?_
        refine XS.iload Xl.here hexec rfl (hb hbytes d5) rfl ?_
        refine XS.icmpNo Xl.here hexec rfl (hb hbytes d7) rfl (ii_ge_f (lt32 (by omega) (by omega))) ?_
        refine XS.aloadN Xl.here hexec rfl (hb hbytes d10) rfl rfl ?_
        refine XS.iloadN Xl.here hexec rfl (hb hbytes d11) rfl ?_
        exact Steps.refl _)
      have c4 : Steps p.tables e below (s₁.setTop (entryFrame m #[.ref b, .int (Int32.ofNat o), .ref d, .int (Int32.ofNat q), .int (Int32.ofNat len)] 7)) (Tl.setTop (mkF m 13 #[.val (.ref b), .val (.int (Int32.ofNat (o + i))), .val (.ref d), .val (.int (Int32.ofNat (q + i))), .val (.int (Int32.ofNat len)), .val (.int (Int32.ofNat i)), z] [.int (cv A (o + i))])) := c3.trans (by
        refine Xl.aget hexec hAl rfl (hA.get (i := o + i) (by omega)) rfl rfl (hb hbytes d12) ?_
        exact Steps.refl _)
      have c5 : Steps p.tables e below (s₁.setTop (entryFrame m #[.ref b, .int (Int32.ofNat o), .ref d, .int (Int32.ofNat q), .int (Int32.ofNat len)] 7)) (Tl.setTop (mkF m 15 #[.val (.ref b), .val (.int (Int32.ofNat (o + i))), .val (.ref d), .val (.int (Int32.ofNat (q + i))), .val (.int (Int32.ofNat len)), .val (.int (Int32.ofNat i)), .val (.int (cv A (o + i)))] [])) := c4.trans (by
        refine XS.istoreS Xl.here hexec rfl (hb hbytes d13) rfl rfl hz ?_
        exact Steps.refl _)
      have c6 : Steps p.tables e below (s₁.setTop (entryFrame m #[.ref b, .int (Int32.ofNat o), .ref d, .int (Int32.ofNat q), .int (Int32.ofNat len)] 7)) (Tl.setTop (mkF m 31 #[.val (.ref b), .val (.int (Int32.ofNat (o + i))), .val (.ref d), .val (.int (Int32.ofNat (q + i))), .val (.int (Int32.ofNat len)), .val (.int (Int32.ofNat i)), .val (.int (cv A (o + i)))] [.int (lo8 (cv A (o + i))), .int (Int32.ofNat (q + i)), .ref d])) := c5.trans (by
        refine XS.iload Xl.here hexec rfl (hb hbytes d15) rfl ?_
        refine sipushV Xl.here hexec rfl 255 (hb hbytes d17) (by decide) ?_
        refine XS.icmpYes Xl.here hexec rfl (pc0 := 20) rfl (hb hbytes d20) rfl (ii_le_t (hp i (by omega))) (by decide) rfl ?_
        refine XS.aloadN Xl.here hexec rfl (hb hbytes d26) rfl rfl ?_
        refine XS.iloadN Xl.here hexec rfl (hb hbytes d27) rfl ?_
        refine XS.iload Xl.here hexec rfl (hb hbytes d28) rfl ?_
        refine i2b Xl.here hexec rfl (hb hbytes d30) rfl ?_
        exact Steps.refl _)
      obtain ⟨T7, X7, p7, st7⟩ := Xl.aput hexec hBk rfl hlt rfl (fits_lo8 (cv A (o + i))) (g := (mkF m 31 #[.val (.ref b), .val (.int (Int32.ofNat (o + i))), .val (.ref d), .val (.int (Int32.ofNat (q + i))), .val (.int (Int32.ofNat len)), .val (.int (Int32.ofNat i)), .val (.int (cv A (o + i)))] [.int (lo8 (cv A (o + i))), .int (Int32.ofNat (q + i)), .ref d])) rfl (rest := []) rfl (hb hbytes d31)
      have c8 : Steps p.tables e below (s₁.setTop (entryFrame m #[.ref b, .int (Int32.ofNat o), .ref d, .int (Int32.ofNat q), .int (Int32.ofNat len)] 7)) (T7.setTop (mkF m 32 #[.val (.ref b), .val (.int (Int32.ofNat (o + i))), .val (.ref d), .val (.int (Int32.ofNat (q + i))), .val (.int (Int32.ofNat len)), .val (.int (Int32.ofNat i)), .val (.int (cv A (o + i)))] [])) := c6.trans (st7 _ (Steps.refl _))
      have c9 : Steps p.tables e below (s₁.setTop (entryFrame m #[.ref b, .int (Int32.ofNat o), .ref d, .int (Int32.ofNat q), .int (Int32.ofNat len)] 7)) (T7.setTop (mkF m 3 #[.val (.ref b), .val (.int (Int32.ofNat (o + i) + 1)), .val (.ref d), .val (.int (Int32.ofNat (q + i) + 1)), .val (.int (Int32.ofNat len)), .val (.int (Int32.ofNat i + 1)), .val (.int (cv A (o + i)))] [])) := c8.trans (by
        refine iincV X7.here hexec rfl 1 (hb hbytes d32) (by decide) rfl rfl ?_
        refine iincV X7.here hexec rfl 1 (hb hbytes d35) (by decide) rfl rfl ?_
        refine iincV X7.here hexec rfl 1 (hb hbytes d38) (by decide) rfl rfl ?_
        refine XS.goto X7.here hexec rfl (pc0 := 41) rfl (hb hbytes d41) (by decide) rfl ?_
        exact Steps.refl _)
      have c10 : Steps p.tables e below (s₁.setTop (entryFrame m #[.ref b, .int (Int32.ofNat o), .ref d, .int (Int32.ofNat q), .int (Int32.ofNat len)] 7)) (T7.setTop (mkF m 3 #[.val (.ref b), .val (.int (Int32.ofNat (o + (i + 1)))), .val (.ref d), .val (.int (Int32.ofNat (q + (i + 1)))), .val (.int (Int32.ofNat len)), .val (.int (Int32.ofNat (i + 1))), .val (.int (cv A (o + i)))] [])) := by
        have := c9
        rw [succ32, succ32, succ32] at this
        exact this
      exact ih (i + 1) (by omega) _ (Or.inr ⟨_, rfl, rfl⟩) T7 _ (by rw [copyLocs_step, ← List.append_assoc]; exact X7) (pl.trans p7) (fl.step (by omega) hlt (by simp)) c10
  obtain ⟨T9, B9, z9, X9, p9, f9, g9⟩ := loop len 0 (by omega) .unset (Or.inl rfl) s₁ B (by simpa [copyLocs] using X0) ⟨hB0.1, fun _ _ => rfl, rfl⟩ (Laid.zero _ _ _) c2
  have c11 : Steps p.tables e below (s₁.setTop (entryFrame m #[.ref b, .int (Int32.ofNat o), .ref d, .int (Int32.ofNat q), .int (Int32.ofNat len)] 7)) (T9.setTop (mkF m 46 #[.val (.ref b), .val (.int (Int32.ofNat (o + len))), .val (.ref d), .val (.int (Int32.ofNat (q + len))), .val (.int (Int32.ofNat len)), .val (.int (Int32.ofNat len)), z9] [.int (Int32.ofNat len)])) := g9.trans (by
    refine XS.iload X9.here hexec rfl (hb hbytes d3) rfl ?_
    refine XS.iload X9.here hexec rfl (hb hbytes d5) rfl ?_
    refine XS.icmpYes X9.here hexec rfl (pc0 := 7) rfl (hb hbytes d7) rfl (ii_ge_t (nlt32 (by omega) (Nat.le_refl _))) (by decide) rfl ?_
    refine XS.iload X9.here hexec rfl (hb hbytes d44) rfl ?_
    exact Steps.refl _)
  exact ⟨T9, some (.int (Int32.ofNat len)), _, _, _, X9, by simp, rfl, rfl, (fun h => by cases h), ⟨rfl, B9, p9.from hh0, f9⟩, fun fs hl => c11.trans (X9.ireturnOut hexec hret rfl (Or.inl rfl) (hb hbytes d46) hl)⟩
end Cmp5
namespace Cmp3
def yN : MethodName := ⟨"java/lang/StringUTF16", "compress", "([CII)[B"⟩
abbrev yB : ByteArray := jdk_52_method_16_code
theorem d0 : decode yB 0 = .ok (.iload_n 2, 1) := by decide +kernel
theorem d1 : decode yB 1 = .ok (.newarray .byte, 2) := by decide +kernel
theorem d3 : decode yB 3 = .ok (.astore_n 3, 1) := by decide +kernel
theorem d4 : decode yB 4 = .ok (.aload_n 0, 1) := by decide +kernel
theorem d5 : decode yB 5 = .ok (.iload_n 1, 1) := by decide +kernel
theorem d6 : decode yB 6 = .ok (.aload_n 3, 1) := by decide +kernel
theorem d7 : decode yB 7 = .ok (.iconst 0, 1) := by decide +kernel
theorem d8 : decode yB 8 = .ok (.iload_n 2, 1) := by decide +kernel
theorem d9 : decode yB 9 = .ok (.invokestatic 115, 3) := by decide +kernel
theorem d12 : decode yB 12 = .ok (.istore 4, 2) := by decide +kernel
theorem d14 : decode yB 14 = .ok (.iload 4, 2) := by decide +kernel
theorem d16 : decode yB 16 = .ok (.iload_n 2, 1) := by decide +kernel
theorem d17 : decode yB 17 = .ok (.if_icmp (.eq) 40, 3) := by decide +kernel
theorem d57 : decode yB 57 = .ok (.aload_n 3, 1) := by decide +kernel
theorem d58 : decode yB 58 = .ok (.areturn, 1) := by decide +kernel
def site : List Cond := [.arrayClass .byte, Cmp5.tab] ++ staticW U16 115 Cmp5.yN
def tab : Cond := tabOf yN yB 6 (some (.array .byte)) site
def P (b : Addr) (A : Cell) (o len : Nat) (args : Array Value) (s : State) : Prop := args = #[.ref b, .int (Int32.ofNat o), .int (Int32.ofNat len)] ∧ Ch b A s ∧ o + len ≤ A.slots.size ∧ len ≤ 536870912 ∧ ∀ i, i < len → ¬ 255 < cv A (o + i)
def E (b : Addr) (A : Cell) (o len : Nat) (r : Option Value) (s u : State) : Prop := NewArr .byte "[B" len (fun j => .int (lo8 (cv A (o + j)))) r s u ∧ u.heap.size = s.heap.size + 1
/-- no char of the range above 255: a new byte[] of their low bytes -/
theorem law (l : Launch) (b : Addr) (A : Cell) (o len : Nat) : Law l yN 3 3 1 18 yB 6 (some (.array .byte)) site (P b A o len) (E b A o len) [] 1 len := by
  refine Law.of_walk (plainFor_of_name (by decide +kernel)) (by decide +kernel) (by decide +kernel) (by decide) (fun _ _ h => by rw [h.1]; rfl) (fun _ U U' hal hh h => ⟨h.1, h.2.1.mv hal hh, h.2.2⟩) (fun r U U' V V' h1 hal h2 h => ⟨NewArr.mv r U U' V V' h1 hal h2 h.1, by rw [h1, h2]; exact h.2⟩) ?_
  intro p e s m args below meth c s₁ X0 hexec hbytes hml hret hlk hnm hown hh0 W hP
  obtain ⟨rfl, hA, l1, l2, hp⟩ := hP
  have a31 := hA.1.2.2.2
  have c1 : Steps p.tables e below (s₁.setTop (entryFrame m #[.ref b, .int (Int32.ofNat o), .int (Int32.ofNat len)] 6)) (s₁.setTop (mkF m 0 #[.val (.ref b), .val (.int (Int32.ofNat o)), .val (.int (Int32.ofNat len)), .unset, .unset, .unset] [])) := entry rfl
  have c2 : Steps p.tables e below (s₁.setTop (entryFrame m #[.ref b, .int (Int32.ofNat o), .int (Int32.ofNat len)] 6)) (s₁.setTop (mkF m 1 #[.val (.ref b), .val (.int (Int32.ofNat o)), .val (.int (Int32.ofNat len)), .unset, .unset, .unset] [.int (Int32.ofNat len)])) := c1.trans (by
    refine XS.iloadN X0.here hexec rfl (hb hbytes d0) rfl ?_
    exact Steps.refl _)
  obtain ⟨T3, B3, X3, ba3, bs3, bv3, bh3, bf3, st3⟩ := X0.anew hexec (atype := .byte) (wk W (.arrayClass .byte)) rfl (by show len * 1 ≤ _; omega) (by omega) (g := (mkF m 1 #[.val (.ref b), .val (.int (Int32.ofNat o)), .val (.int (Int32.ofNat len)), .unset, .unset, .unset] [.int (Int32.ofNat len)])) rfl (hb hbytes d1) (rest := []) rfl (Nat.le_refl _) (by show 0 + len ≤ len; omega)
  rw [hh0] at ba3 st3
  have kp3 : XT.Kept s T3 := (XT.Kept.of_eq hh0).push bh3
  have hA3 := hA.keep X3.warmed.alike (kp3 _ _ hA.1.1)
  have hne : b ≠ s.heap.size := hA.1.ne
  have c4 : Steps p.tables e below (s₁.setTop (entryFrame m #[.ref b, .int (Int32.ofNat o), .int (Int32.ofNat len)] 6)) (T3.setTop (mkF m 3 #[.val (.ref b), .val (.int (Int32.ofNat o)), .val (.int (Int32.ofNat len)), .unset, .unset, .unset] [.ref s.heap.size])) := c2.trans (st3 _ (Steps.refl _))
  have c5 : Steps p.tables e below (s₁.setTop (entryFrame m #[.ref b, .int (Int32.ofNat o), .int (Int32.ofNat len)] 6)) (T3.setTop (mkF m 9 #[.val (.ref b), .val (.int (Int32.ofNat o)), .val (.int (Int32.ofNat len)), .val (.ref s.heap.size), .unset, .unset] [.int (Int32.ofNat len), .int 0, .ref s.heap.size, .int (Int32.ofNat o), .ref b])) := c4.trans (by
    refine XS.astoreN X3.here hexec rfl (hb hbytes d3) rfl rfl rfl ?_
    refine XS.aloadN X3.here hexec rfl (hb hbytes d4) rfl rfl ?_
    refine XS.iloadN X3.here hexec rfl (hb hbytes d5) rfl ?_
    refine XS.aloadN X3.here hexec rfl (hb hbytes d6) rfl rfl ?_
    refine iconstV X3.here hexec rfl 0 (hb hbytes d7) (by decide) ?_
    refine XS.iloadN X3.here hexec rfl (hb hbytes d8) rfl ?_
    exact Steps.refl _)
  obtain ⟨v6, T6, X6, E6, g6⟩ := X3.callS hexec (Cmp5.law l b A s.heap.size B3 o 0 len) hown (wks W (staticW U16 115 Cmp5.yN)) (wk W Cmp5.tab) (W := 0) (Nat.le_of_ble_eq_true rfl) (Nat.le_of_ble_eq_true rfl) (Nat.le_refl _) (by show 0 + len + 0 ≤ len; omega) (g := (mkF m 9 #[.val (.ref b), .val (.int (Int32.ofNat o)), .val (.int (Int32.ofNat len)), .val (.ref s.heap.size), .unset, .unset] [.int (Int32.ofNat len), .int (Int32.ofNat 0), .ref s.heap.size, .int (Int32.ofNat o), .ref b])) rfl (by rw [hml]; rfl) c5 (argsL := [.ref b, .int (Int32.ofNat o), .ref s.heap.size, .int (Int32.ofNat 0), .int (Int32.ofNat len)]) (rest := []) rfl rfl (by show 2 * 0 + 0 ≤ _; decide) (hb hbytes d9) (⟨rfl, hA3, ba3, hne, l1, by rw [bs3]; simp, hp⟩)
  obtain ⟨rfl, B6, p6, f6⟩ := E6
  have c7 : Steps p.tables e below (s₁.setTop (entryFrame m #[.ref b, .int (Int32.ofNat o), .int (Int32.ofNat len)] 6)) (T6.setTop (mkF m 12 #[.val (.ref b), .val (.int (Int32.ofNat o)), .val (.int (Int32.ofNat len)), .val (.ref s.heap.size), .unset, .unset] [.int (Int32.ofNat len)])) := g6
  have c8 : Steps p.tables e below (s₁.setTop (entryFrame m #[.ref b, .int (Int32.ofNat o), .int (Int32.ofNat len)] 6)) (T6.setTop (mkF m 58 #[.val (.ref b), .val (.int (Int32.ofNat o)), .val (.int (Int32.ofNat len)), .val (.ref s.heap.size), .val (.int (Int32.ofNat len)), .unset] [.ref s.heap.size])) := c7.trans (by
    refine XS.istore X6.here hexec rfl (hb hbytes d12) rfl rfl ?_
    refine XS.iload X6.here hexec rfl (hb hbytes d14) rfl ?_
    refine XS.iloadN X6.here hexec rfl (hb hbytes d16) rfl ?_
    refine XS.icmpYes X6.here hexec rfl (pc0 := 17) rfl (hb hbytes d17) rfl (ii_eq_t rfl) (by decide) rfl ?_
    refine XS.aloadN X6.here hexec rfl (hb hbytes d57) rfl rfl ?_
    exact Steps.refl _)
  have X8 := X6.wide (L' := []) (cells' := 1) (slots' := len) (fun x hx hlt => by
    simp only [List.nil_append, copyLocs, List.mem_map, List.mem_range] at hx
    obtain ⟨i, -, rfl⟩ := hx
    exact absurd hlt (Nat.lt_irrefl _)) (Nat.le_refl _) (by omega)
  exact ⟨T6, some (.ref s.heap.size), _, _, _, X8, rfl, rfl, rfl, (fun h => by cases h), ⟨⟨rfl, B6, ba3.like (X3.warmed.alike.symm.trans X6.warmed.alike) p6.1 f6.1 f6.2.1 f6.2.2.1, f6.2.1.trans bv3, by rw [X6.warmed.alike.findClass, f6.1]; exact bf3, by rw [f6.2.2.1, bs3]; simp, fun j hj => by rw [f6.2.2.2 j, if_pos (by omega)]; rfl, kp3.put p6 (Nat.le_refl _)⟩, by rw [p6.2.2, bh3, hh0]; simp⟩, fun fs hl => c8.trans (X8.areturnOut hexec rfl hret rfl (hb hbytes d58) hl)⟩
end Cmp3
namespace CodL
def yN : MethodName := ⟨"java/lang/StringUTF16", "coderFromArrayLen", "([BI)B"⟩
abbrev yB : ByteArray := jdk_52_method_15_code
theorem d0 : decode yB 0 = .ok (.iload_n 1, 1) := by decide +kernel
theorem d1 : decode yB 1 = .ok (.aload_n 0, 1) := by decide +kernel
theorem d2 : decode yB 2 = .ok (.arraylength, 1) := by decide +kernel
theorem d3 : decode yB 3 = .ok (.isub, 1) := by decide +kernel
theorem d4 : decode yB 4 = .ok (.bipush 31, 2) := by decide +kernel
theorem d6 : decode yB 6 = .ok (.iushr, 1) := by decide +kernel
theorem d7 : decode yB 7 = .ok (.i2b, 1) := by decide +kernel
theorem d8 : decode yB 8 = .ok (.ireturn, 1) := by decide +kernel
def site : List Cond := []
def tab : Cond := tabOf yN yB 2 (some .byte) site
def P (d : Addr) (B : Cell) (args : Array Value) (s : State) : Prop := args = #[.ref d, .int (Int32.ofNat B.slots.size)] ∧ Arr .byte d B s
def E (r : Option Value) (s u : State) : Prop := XT.PureE (some (.int 0)) r s u
/-- an array as long as the number of chars: LATIN1 -/
theorem law (l : Launch) (d : Addr) (B : Cell) : Law l yN 2 2 0 0 yB 2 (some .byte) site (P d B) E [] 0 0 := by
  refine Law.of_walk (plainFor_of_name (by decide +kernel)) (by decide +kernel) (by decide +kernel) (by decide) (fun _ _ h => by rw [h.1]; rfl) (fun _ U U' hal hh h => ⟨h.1, h.2.mv hal hh⟩) (fun r U U' V V' h1 hal h2 h => XT.PureE.mv r U U' V V' h1 hal h2 h) ?_
  intro p e s m args below meth c s₁ X0 hexec hbytes hml hret hlk hnm hown hh0 W hP
  obtain ⟨rfl, hB⟩ := hP
  have hB0 := hB.mv X0.warmed.alike hh0
  have c1 : Steps p.tables e below (s₁.setTop (entryFrame m #[.ref d, .int (Int32.ofNat B.slots.size)] 2)) (s₁.setTop (mkF m 0 #[.val (.ref d), .val (.int (Int32.ofNat B.slots.size))] [])) := entry rfl
  have c2 : Steps p.tables e below (s₁.setTop (entryFrame m #[.ref d, .int (Int32.ofNat B.slots.size)] 2)) (s₁.setTop (mkF m 2 #[.val (.ref d), .val (.int (Int32.ofNat B.slots.size))] [.ref d, .int (Int32.ofNat B.slots.size)])) := c1.trans (by
    refine XS.iloadN X0.here hexec rfl (hb hbytes d0) rfl ?_
    refine XS.aloadN X0.here hexec rfl (hb hbytes d1) rfl rfl ?_
    exact Steps.refl _)
  have c3 : Steps p.tables e below (s₁.setTop (entryFrame m #[.ref d, .int (Int32.ofNat B.slots.size)] 2)) (s₁.setTop (mkF m 8 #[.val (.ref d), .val (.int (Int32.ofNat B.slots.size))] [.int (lo8 (ushr (Int32.ofNat B.slots.size - Int32.ofNat B.slots.size) 31))])) := c2.trans (by
    refine X0.alen hexec hB0 rfl rfl (hb hbytes d2) ?_
    refine XS.isub X0.here hexec rfl (hb hbytes d3) rfl ?_
    refine bipushV X0.here hexec rfl 31 (hb hbytes d4) (by decide) ?_
    refine iushr X0.here hexec rfl (hb hbytes d6) rfl ?_
    refine i2b X0.here hexec rfl (hb hbytes d7) rfl ?_
    exact Steps.refl _)
  have e0 : lo8 (ushr (Int32.ofNat B.slots.size - Int32.ofNat B.slots.size) 31) = 0 := by rw [Int32.sub_self]; decide
  rw [e0] at c3
  exact ⟨s₁, some (.int 0), _, _, _, X0, rfl, rfl, rfl, (fun h => by cases h), ⟨rfl, hh0⟩, fun fs hl => c3.trans (X0.ireturnOut hexec hret rfl (Or.inr (Or.inr (Or.inl rfl))) (hb hbytes d8) hl)⟩
end CodL
/-- the String at a is Latin-1 over a new byte[] (the heap's one new cell): the low bytes of the len chars of A from o on; every cell but a is kept -/
def Got (a : Addr) (D : Cell) (fV fC : Field) (A : Cell) (o len : Nat) (r : Option Value) (s u : State) : Prop := r = none ∧ ∃ D' V : Cell, Blank "java/lang/String" a D' u ∧ Same D D' [fV.slot, fC.slot] ∧ D'.slots[fV.slot]? = some (.ref s.heap.size) ∧ D'.slots[fC.slot]? = some (.int 0) ∧ Arr .byte s.heap.size V u ∧ V.vm = .none ∧ u.vm.findClass "[B" = some V.cls ∧ V.slots.size = len ∧ (∀ j, j < len → V.slots[j]? = some (.int (lo8 (cv A (o + j))))) ∧ (∀ (y : Addr) (c : Cell), y ≠ a → s.heap[y]? = some c → u.heap[y]? = some c) ∧ u.heap.size = s.heap.size + 1
theorem Got.mv {a : Addr} {D A : Cell} {fV fC : Field} {o len : Nat} : ∀ r (U U' V V' : State), U'.heap = U.heap → V.vm.Alike V'.vm → V'.heap = V.heap → Got a D fV fC A o len r U V → Got a D fV fC A o len r U' V' :=
  fun r U U' V V' h1 hal h2 ⟨e0, D', X, a1, a2, a3, a4, a5, a6, a7, a8, a9, a10, a11⟩ => ⟨e0, D', X, a1.mv hal h2, a2, by rw [h1]; exact a3, a4, by rw [h1]; exact a5.mv hal h2, a6, by rw [hal.findClass]; exact a7, a8, a9, by rw [h1, h2]; exact a10, by rw [h1, h2]; exact a11⟩
namespace New4
def yN : MethodName := ⟨"java/lang/String", "<init>", "([CIILjava/lang/Void;)V"⟩
abbrev yB : ByteArray := jdk_42_method_149_code
theorem d0 : decode yB 0 = .ok (.aload_n 0, 1) := by decide +kernel
theorem d1 : decode yB 1 = .ok (.invokespecial 1, 3) := by decide +kernel
theorem d4 : decode yB 4 = .ok (.iload_n 3, 1) := by decide +kernel
theorem d5 : decode yB 5 = .ok (.ifCond (.ne) 22, 3) := by decide +kernel
theorem d27 : decode yB 27 = .ok (.getstatic 38, 3) := by decide +kernel
theorem d30 : decode yB 30 = .ok (.ifCond (.eq) 28, 3) := by decide +kernel
theorem d33 : decode yB 33 = .ok (.aload_n 1, 1) := by decide +kernel
theorem d34 : decode yB 34 = .ok (.iload_n 2, 1) := by decide +kernel
theorem d35 : decode yB 35 = .ok (.iload_n 3, 1) := by decide +kernel
theorem d36 : decode yB 36 = .ok (.invokestatic 177, 3) := by decide +kernel
theorem d39 : decode yB 39 = .ok (.astore 5, 2) := by decide +kernel
theorem d41 : decode yB 41 = .ok (.aload_n 0, 1) := by decide +kernel
theorem d42 : decode yB 42 = .ok (.aload 5, 2) := by decide +kernel
theorem d44 : decode yB 44 = .ok (.iload_n 3, 1) := by decide +kernel
theorem d45 : decode yB 45 = .ok (.invokestatic 47, 3) := by decide +kernel
theorem d48 : decode yB 48 = .ok (.putfield 15, 3) := by decide +kernel
theorem d51 : decode yB 51 = .ok (.aload_n 0, 1) := by decide +kernel
theorem d52 : decode yB 52 = .ok (.aload 5, 2) := by decide +kernel
theorem d54 : decode yB 54 = .ok (.putfield 9, 3) := by decide +kernel
theorem d57 : decode yB 57 = .ok (.return_, 1) := by decide +kernel
def site : List Cond := [.fieldLink "java/lang/String" 38 "java/lang/String" "COMPACT_STRINGS" "Z", Cmp3.tab, CodL.tab, .laysFinal "java/lang/String" "java/lang/String" "value" "[B", .fieldLink "java/lang/String" 9 "java/lang/String" "value" "[B", .laysFinal "java/lang/String" "java/lang/String" "coder" "B", .fieldLink "java/lang/String" 15 "java/lang/String" "coder" "B"] ++ objW "java/lang/String" 1 ++ staticW "java/lang/String" 177 Cmp3.yN ++ staticW "java/lang/String" 47 CodL.yN
def tab : Cond := tabOf yN yB 6 none site
def P (a : Addr) (D : Cell) (fV fC : Field) (b : Addr) (A : Cell) (z : Int32) (o len : Nat) (args : Array Value) (s : State) : Prop := args = #[.ref a, .ref b, .int (Int32.ofNat o), .int (Int32.ofNat len), .null] ∧ Blank "java/lang/String" a D s ∧ Found "java/lang/String" "value" "[B" fV s ∧ Found "java/lang/String" "coder" "B" fC s ∧ Ch b A s ∧ StaticIs s "java/lang/String" "COMPACT_STRINGS" "Z" (.int z) ∧ ¬ z = 0 ∧ 0 < len ∧ o + len ≤ A.slots.size ∧ len ≤ 536870912 ∧ ∀ i, i < len → ¬ 255 < cv A (o + i)
def E (a : Addr) (D : Cell) (fV fC : Field) (A : Cell) (o len : Nat) (r : Option Value) (s u : State) : Prop := Got a D fV fC A o len r s u
/-- len > 0, no char of the range above 255: a Latin-1 String of their low bytes -/
theorem law (l : Launch) (a : Addr) (D : Cell) (fV fC : Field) (b : Addr) (A : Cell) (z : Int32) (o len : Nat) : Law l yN 5 4 2 35 yB 6 none site (P a D fV fC b A z o len) (E a D fV fC A o len) [⟨a, fC.slot⟩, ⟨a, fV.slot⟩] 1 len := by
  refine Law.of_walk (plainFor_of_name (by decide +kernel)) (by decide +kernel) (by decide +kernel) (by decide) (fun _ _ h => by rw [h.1]; rfl) (fun _ U U' hal hh h => ⟨h.1, h.2.1.mv hal hh, h.2.2.1.al hal, h.2.2.2.1.al hal, h.2.2.2.2.1.mv hal hh, h.2.2.2.2.2.1.there hal hh, h.2.2.2.2.2.2⟩) (fun r U U' V V' h1 hal h2 h => Got.mv r U U' V V' h1 hal h2 h) ?_
  intro p e s m args below meth c s₁ X0 hexec hbytes hml hret hlk hnm hown hh0 W hP
  obtain ⟨rfl, hB, f1, f2, hA, s1, hz, l0, l1, l2, hp⟩ := hP
  have a31 := hA.1.2.2.2
  have c1 : Steps p.tables e below (s₁.setTop (entryFrame m #[.ref a, .ref b, .int (Int32.ofNat o), .int (Int32.ofNat len), .null] 6)) (s₁.setTop (mkF m 0 #[.val (.ref a), .val (.ref b), .val (.int (Int32.ofNat o)), .val (.int (Int32.ofNat len)), .val .null, .unset] [])) := entry rfl
  have c2 : Steps p.tables e below (s₁.setTop (entryFrame m #[.ref a, .ref b, .int (Int32.ofNat o), .int (Int32.ofNat len), .null] 6)) (s₁.setTop (mkF m 1 #[.val (.ref a), .val (.ref b), .val (.int (Int32.ofNat o)), .val (.int (Int32.ofNat len)), .val .null, .unset] [.ref a])) := c1.trans (by
    refine XS.aloadN X0.here hexec rfl (hb hbytes d0) rfl rfl ?_
    exact Steps.refl _)
  obtain ⟨T3, X3, q3, st3⟩ := X0.oinit hexec hown (wks W (objW "java/lang/String" 1)) (g := (mkF m 1 #[.val (.ref a), .val (.ref b), .val (.int (Int32.ofNat o)), .val (.int (Int32.ofNat len)), .val .null, .unset] [.ref a])) rfl (by rw [hml]; rfl) (rest := []) rfl (hb hbytes d1) (W := 0) (by show 2 * 0 + 0 ≤ _; decide) (Nat.le_of_ble_eq_true rfl) (Nat.le_of_ble_eq_true rfl)
  have hh3 := q3.trans hh0
  have c4 : Steps p.tables e below (s₁.setTop (entryFrame m #[.ref a, .ref b, .int (Int32.ofNat o), .int (Int32.ofNat len), .null] 6)) (T3.setTop (mkF m 27 #[.val (.ref a), .val (.ref b), .val (.int (Int32.ofNat o)), .val (.int (Int32.ofNat len)), .val .null, .unset] [])) := (c2.trans (st3 _ (Steps.refl _))).trans (by
    refine XS.iloadN X3.here hexec rfl (hb hbytes d4) rfl ?_
    refine XS.ifYes X3.here hexec rfl (pc0 := 5) rfl (hb hbytes d5) rfl (i0_ne_t (nz32 (by omega) l0)) (by decide) rfl ?_
    exact Steps.refl _)
  obtain ⟨T5, X5, q5, st5⟩ := X3.sget hexec hown (wk W (.fieldLink "java/lang/String" 38 "java/lang/String" "COMPACT_STRINGS" "Z")) s1 (fun _ _ h => by rw [hh3]; exact h) (g := (mkF m 27 #[.val (.ref a), .val (.ref b), .val (.int (Int32.ofNat o)), .val (.int (Int32.ofNat len)), .val .null, .unset] [])) rfl (hb hbytes d27)
  have hh5 := q5.trans hh3
  have c6 : Steps p.tables e below (s₁.setTop (entryFrame m #[.ref a, .ref b, .int (Int32.ofNat o), .int (Int32.ofNat len), .null] 6)) (T5.setTop (mkF m 30 #[.val (.ref a), .val (.ref b), .val (.int (Int32.ofNat o)), .val (.int (Int32.ofNat len)), .val .null, .unset] [.int z])) := c4.trans (st5 _ (Steps.refl _))
  have c7 : Steps p.tables e below (s₁.setTop (entryFrame m #[.ref a, .ref b, .int (Int32.ofNat o), .int (Int32.ofNat len), .null] 6)) (T5.setTop (mkF m 36 #[.val (.ref a), .val (.ref b), .val (.int (Int32.ofNat o)), .val (.int (Int32.ofNat len)), .val .null, .unset] [.int (Int32.ofNat len), .int (Int32.ofNat o), .ref b])) := c6.trans (by
    refine XS.ifNo X5.here hexec rfl (hb hbytes d30) rfl (i0_eq_f hz) ?_
    refine XS.aloadN X5.here hexec rfl (hb hbytes d33) rfl rfl ?_
    refine XS.iloadN X5.here hexec rfl (hb hbytes d34) rfl ?_
    refine XS.iloadN X5.here hexec rfl (hb hbytes d35) rfl ?_
    exact Steps.refl _)
  obtain ⟨v8, T8, X8, E8, g8⟩ := X5.callS hexec (Cmp3.law l b A o len) hown (wks W (staticW "java/lang/String" 177 Cmp3.yN)) (wk W Cmp3.tab) (W := 0) (Nat.le_of_ble_eq_true rfl) (Nat.le_of_ble_eq_true rfl) (Nat.le_refl _) (by show 0 + len ≤ len; omega) (g := (mkF m 36 #[.val (.ref a), .val (.ref b), .val (.int (Int32.ofNat o)), .val (.int (Int32.ofNat len)), .val .null, .unset] [.int (Int32.ofNat len), .int (Int32.ofNat o), .ref b])) rfl (by rw [hml]; rfl) c7 (argsL := [.ref b, .int (Int32.ofNat o), .int (Int32.ofNat len)]) (rest := []) rfl rfl (by show 2 * 0 + 0 ≤ _; decide) (hb hbytes d36) (⟨rfl, hA.mv X5.warmed.alike hh5, l1, l2, hp⟩)
  obtain ⟨e8, z8⟩ := E8
  obtain ⟨rfl, N, n1, n2, n3, n4, n5, n6⟩ := NewArr.mv _ T5 s _ _ hh5.symm (Vm.Alike.refl _) rfl e8
  rw [hh5] at z8
  have hB1 := hB.keep X8.warmed.alike (n6 _ _ hB.1)
  have hne : s.heap.size ≠ a := (Nat.ne_of_lt (Array.getElem?_eq_some_iff.mp hB.1).1).symm
  have c9 : Steps p.tables e below (s₁.setTop (entryFrame m #[.ref a, .ref b, .int (Int32.ofNat o), .int (Int32.ofNat len), .null] 6)) (T8.setTop (mkF m 39 #[.val (.ref a), .val (.ref b), .val (.int (Int32.ofNat o)), .val (.int (Int32.ofNat len)), .val .null, .unset] [.ref s.heap.size])) := g8
  have c10 : Steps p.tables e below (s₁.setTop (entryFrame m #[.ref a, .ref b, .int (Int32.ofNat o), .int (Int32.ofNat len), .null] 6)) (T8.setTop (mkF m 45 #[.val (.ref a), .val (.ref b), .val (.int (Int32.ofNat o)), .val (.int (Int32.ofNat len)), .val .null, .val (.ref s.heap.size)] [.int (Int32.ofNat N.slots.size), .ref s.heap.size, .ref a])) := by
    have hc : Steps p.tables e below (s₁.setTop (entryFrame m #[.ref a, .ref b, .int (Int32.ofNat o), .int (Int32.ofNat len), .null] 6)) (T8.setTop (mkF m 45 #[.val (.ref a), .val (.ref b), .val (.int (Int32.ofNat o)), .val (.int (Int32.ofNat len)), .val .null, .val (.ref s.heap.size)] [.int (Int32.ofNat len), .ref s.heap.size, .ref a])) := c9.trans (by
      refine XS.astore X8.here hexec rfl (hb hbytes d39) rfl rfl rfl ?_
      refine XS.aloadN X8.here hexec rfl (hb hbytes d41) rfl rfl ?_
      refine XS.aload X8.here hexec rfl (hb hbytes d42) rfl rfl ?_
      refine XS.iloadN X8.here hexec rfl (hb hbytes d44) rfl ?_
      exact Steps.refl _)
    rw [n4]; exact hc
  obtain ⟨v11, T11, X11, E11, g11⟩ := X8.callS hexec (CodL.law l s.heap.size N) hown (wks W (staticW "java/lang/String" 47 CodL.yN)) (wk W CodL.tab) (W := 1) (Nat.le_of_ble_eq_true rfl) (Nat.le_of_ble_eq_true rfl) (Nat.le_refl _) (by show 0 + len + 0 ≤ len; omega) (g := (mkF m 45 #[.val (.ref a), .val (.ref b), .val (.int (Int32.ofNat o)), .val (.int (Int32.ofNat len)), .val .null, .val (.ref s.heap.size)] [.int (Int32.ofNat N.slots.size), .ref s.heap.size, .ref a])) rfl (by rw [hml]; rfl) c10 (argsL := [.ref s.heap.size, .int (Int32.ofNat N.slots.size)]) (rest := [.ref a]) rfl rfl (by show 2 * 0 + (1 + 0) ≤ _; decide) (hb hbytes d45) (⟨rfl, n1⟩)
  obtain ⟨rfl, q11⟩ := E11
  have hB11 := hB1.mv (X8.warmed.alike.symm.trans X11.warmed.alike) q11
  have c12 : Steps p.tables e below (s₁.setTop (entryFrame m #[.ref a, .ref b, .int (Int32.ofNat o), .int (Int32.ofNat len), .null] 6)) (T11.setTop (mkF m 48 #[.val (.ref a), .val (.ref b), .val (.int (Int32.ofNat o)), .val (.int (Int32.ofNat len)), .val .null, .val (.ref s.heap.size)] [.int 0, .ref a])) := g11
  obtain ⟨T13, X13, p13, bl13, sl13, st13⟩ := X11.finit hexec hown (wk W (.fieldLink "java/lang/String" 15 "java/lang/String" "coder" "B")) (Or.inr ⟨_, (wk W (.laysFinal "java/lang/String" "java/lang/String" "coder" "B"))⟩) (Or.inl ⟨rfl, hnm⟩) f2 (Or.inl rfl) hB11 (t := .byte) (by decide +kernel) rfl (g := (mkF m 48 #[.val (.ref a), .val (.ref b), .val (.int (Int32.ofNat o)), .val (.int (Int32.ofNat len)), .val .null, .val (.ref s.heap.size)] [.int 0, .ref a])) rfl (rest := []) rfl (hb hbytes d48)
  have c14 : Steps p.tables e below (s₁.setTop (entryFrame m #[.ref a, .ref b, .int (Int32.ofNat o), .int (Int32.ofNat len), .null] 6)) (T13.setTop (mkF m 54 #[.val (.ref a), .val (.ref b), .val (.int (Int32.ofNat o)), .val (.int (Int32.ofNat len)), .val .null, .val (.ref s.heap.size)] [.ref s.heap.size, .ref a])) := (c12.trans (st13 _ (Steps.refl _))).trans (by
    refine XS.aloadN X13.here hexec rfl (hb hbytes d51) rfl rfl ?_
    refine XS.aload X13.here hexec rfl (hb hbytes d52) rfl rfl ?_
    exact Steps.refl _)
  obtain ⟨T15, X15, p15, bl15, sl15, st15⟩ := X13.finit hexec hown (wk W (.fieldLink "java/lang/String" 9 "java/lang/String" "value" "[B")) (Or.inr ⟨_, (wk W (.laysFinal "java/lang/String" "java/lang/String" "value" "[B"))⟩) (Or.inl ⟨rfl, hnm⟩) f1 (Or.inl rfl) bl13 (t := (.array .byte)) (by decide +kernel) rfl (g := (mkF m 54 #[.val (.ref a), .val (.ref b), .val (.int (Int32.ofNat o)), .val (.int (Int32.ofNat len)), .val .null, .val (.ref s.heap.size)] [.ref s.heap.size, .ref a])) rfl (rest := []) rfl (hb hbytes d54)
  have c16 : Steps p.tables e below (s₁.setTop (entryFrame m #[.ref a, .ref b, .int (Int32.ofNat o), .int (Int32.ofNat len), .null] 6)) (T15.setTop (mkF m 57 #[.val (.ref a), .val (.ref b), .val (.int (Int32.ofNat o)), .val (.int (Int32.ofNat len)), .val .null, .val (.ref s.heap.size)] [])) := c14.trans (st15 _ (Steps.refl _))
  have ap := apart (Or.inr ⟨_, (wk W (.laysFinal "java/lang/String" "java/lang/String" "value" "[B"))⟩) (Or.inr ⟨_, (wk W (.laysFinal "java/lang/String" "java/lang/String" "coder" "B"))⟩) f1 f2 (t₁ := .array .byte) (t₂ := .byte) (by decide +kernel) (by decide +kernel) (by decide)
  have al := X8.warmed.alike.symm.trans X15.warmed.alike
  have n7 : T11.heap[s.heap.size]? = some N := by rw [q11]; exact n1.1
  exact ⟨T15, none, _, _, _, X15, by simp, rfl, by omega, (fun _ => rfl), ⟨rfl, _, N, bl15, ((Same.refl D _).set _ (by simp)).set _ (by simp), sl15, (Cell.slots_setSlot_ne _ ap).trans sl13, n1.keep al (p15.other hne (p13.other hne n7)), n2, by rw [al.findClass]; exact n3, n4, n5, fun y c h1 h2 => p15.other h1 (p13.other h1 (by rw [q11]; exact n6 y c h2)), by rw [p15.2.2, p13.2.2, q11]; exact z8⟩, fun fs hl => c16.trans (X15.returnOut hexec hret (hb hbytes d57) hl)⟩
end New4
namespace New1
def yN : MethodName := ⟨"java/lang/String", "<init>", "([C)V"⟩
abbrev yB : ByteArray := jdk_42_method_3_code
theorem d0 : decode yB 0 = .ok (.aload_n 0, 1) := by decide +kernel
theorem d1 : decode yB 1 = .ok (.aload_n 1, 1) := by decide +kernel
theorem d2 : decode yB 2 = .ok (.iconst 0, 1) := by decide +kernel
theorem d3 : decode yB 3 = .ok (.aload_n 1, 1) := by decide +kernel
theorem d4 : decode yB 4 = .ok (.arraylength, 1) := by decide +kernel
theorem d5 : decode yB 5 = .ok (.aconst_null, 1) := by decide +kernel
theorem d6 : decode yB 6 = .ok (.invokespecial 27, 3) := by decide +kernel
theorem d9 : decode yB 9 = .ok (.return_, 1) := by decide +kernel
def site : List Cond := [New4.tab] ++ initW "java/lang/String" 27 New4.yN
def tab : Cond := tabOf yN yB 2 none site
def P (a : Addr) (D : Cell) (fV fC : Field) (b : Addr) (A : Cell) (z : Int32) (args : Array Value) (s : State) : Prop := args = #[.ref a, .ref b] ∧ Blank "java/lang/String" a D s ∧ Found "java/lang/String" "value" "[B" fV s ∧ Found "java/lang/String" "coder" "B" fC s ∧ Ch b A s ∧ StaticIs s "java/lang/String" "COMPACT_STRINGS" "Z" (.int z) ∧ ¬ z = 0 ∧ 0 < A.slots.size ∧ A.slots.size ≤ 536870912 ∧ ∀ i, i < A.slots.size → ¬ 255 < cv A i
def E (a : Addr) (D : Cell) (fV fC : Field) (A : Cell) (r : Option Value) (s u : State) : Prop := Got a D fV fC A 0 A.slots.size r s u
/-- new String(chars), not empty, no char above 255: a Latin-1 String of their low bytes -/
theorem law (l : Launch) (a : Addr) (D : Cell) (fV fC : Field) (b : Addr) (A : Cell) (z : Int32) : Law l yN 2 1 3 52 yB 2 none site (P a D fV fC b A z) (E a D fV fC A) [⟨a, fC.slot⟩, ⟨a, fV.slot⟩] 1 A.slots.size := by
  refine Law.of_walk (plainFor_of_name (by decide +kernel)) (by decide +kernel) (by decide +kernel) (by decide) (fun _ _ h => by rw [h.1]; rfl) (fun _ U U' hal hh h => ⟨h.1, h.2.1.mv hal hh, h.2.2.1.al hal, h.2.2.2.1.al hal, h.2.2.2.2.1.mv hal hh, h.2.2.2.2.2.1.there hal hh, h.2.2.2.2.2.2⟩) (fun r U U' V V' h1 hal h2 h => Got.mv r U U' V V' h1 hal h2 h) ?_
  intro p e s m args below meth c s₁ X0 hexec hbytes hml hret hlk hnm hown hh0 W hP
  obtain ⟨rfl, hB, f1, f2, hA, s1, hz, l0, l2, hp⟩ := hP
  have c1 : Steps p.tables e below (s₁.setTop (entryFrame m #[.ref a, .ref b] 2)) (s₁.setTop (mkF m 0 #[.val (.ref a), .val (.ref b)] [])) := entry rfl
  have c2 : Steps p.tables e below (s₁.setTop (entryFrame m #[.ref a, .ref b] 2)) (s₁.setTop (mkF m 6 #[.val (.ref a), .val (.ref b)] [.null, .int (Int32.ofNat A.slots.size), .int 0, .ref b, .ref a])) := c1.trans (by
    refine XS.aloadN X0.here hexec rfl (hb hbytes d0) rfl rfl ?_
    refine XS.aloadN X0.here hexec rfl (hb hbytes d1) rfl rfl ?_
    refine iconstV X0.here hexec rfl 0 (hb hbytes d2) (by decide) ?_
    refine XS.aloadN X0.here hexec rfl (hb hbytes d3) rfl rfl ?_
    refine X0.alen hexec (hA.1.mv X0.warmed.alike hh0) rfl rfl (hb hbytes d4) ?_
    refine XS.aconstNull X0.here hexec rfl (hb hbytes d5) ?_
    exact Steps.refl _)
  obtain ⟨v3, T3, X3, E3, g3⟩ := X0.callN hexec (New4.law l a D fV fC b A z 0 A.slots.size) rfl hown (wks W (initW "java/lang/String" 27 New4.yN)) (W New4.tab (by simp only [site, List.mem_cons, List.mem_append, true_or, or_true])) (W := 0) (Nat.le_of_ble_eq_true rfl) (Nat.le_of_ble_eq_true rfl) (Nat.le_refl _) (by show 0 + A.slots.size ≤ A.slots.size; omega) (g := (mkF m 6 #[.val (.ref a), .val (.ref b)] [.null, .int (Int32.ofNat A.slots.size), .int (Int32.ofNat 0), .ref b, .ref a])) rfl (by rw [hml]; rfl) c2 (argsL := [.ref b, .int (Int32.ofNat 0), .int (Int32.ofNat A.slots.size), .null]) (rest := []) rfl rfl (by show 2 * 0 + 0 ≤ _; decide) (hb hbytes d6) (⟨rfl, hB.mv X0.warmed.alike hh0, f1.al X0.warmed.alike, f2.al X0.warmed.alike, hA.mv X0.warmed.alike hh0, s1.there X0.warmed.alike hh0, hz, l0, by omega, l2, fun i hi => by rw [Nat.zero_add]; exact hp i hi⟩)
  have e0 := Got.mv _ s₁ s _ _ hh0.symm (Vm.Alike.refl _) rfl E3
  obtain rfl := e0.1
  have c4 : Steps p.tables e below (s₁.setTop (entryFrame m #[.ref a, .ref b] 2)) (T3.setTop (mkF m 9 #[.val (.ref a), .val (.ref b)] [])) := g3
  exact ⟨T3, none, _, _, _, X3, by simp, rfl, by omega, (fun _ => rfl), e0, fun fs hl => c4.trans (X3.returnOut hexec hret (hb hbytes d9) hl)⟩
theorem pays {l : Launch} {R : Room} {p : Program} {e : Env} {below : List Frame} {s : State} {sargs : Array Value} {len W : Nat} (a : Addr) (D : Cell) (fV fC : Field) (b : Addr) (A : Cell) (z : Int32) (htab : tab.before sargs s = true) (hfr : 4 ≤ R.frames) (hlo : W + 65 ≤ R.locals) :
    Back l R p e below s sargs yN len W (fun A₁ a₁ => A₁.cells + 1 ≤ R.cells ∧ A₁.slots + A.slots.size ≤ R.slots ∧ P a D fV fC b A z a₁ A₁.U) (fun A₁ _ v₁ B₁ => E a D fV fC A v₁ A₁.U B₁.U ∧ B₁.locs = A₁.locs ++ [⟨a, fC.slot⟩, ⟨a, fV.slot⟩] ∧ B₁.cells = A₁.cells + 1 ∧ B₁.slots = A₁.slots + A.slots.size) :=
  (law l a D fV fC b A z).pays htab hfr (by omega)
end New1
end StrChars
namespace StrChars.Road
open Jvm Sem ClassFile Op Lib Jvm.Stand Jvm.Free Jvm.Free.XT
open Jvm.Lib.Cold (StaticIs)
abbrev ST : String := "java/lang/String"
/-- every table word that New1's law asks, flat -/
abbrev words : List Jvm.Cond := [.code New1.yN New1.yB 2 none, .initialized ST, .methodLink ST 27 New4.yN, .instanceMethod New4.yN,
  .code New4.yN New4.yB 6 none, .fieldLink ST 38 ST "COMPACT_STRINGS" "Z", .laysFinal ST ST "value" "[B", .fieldLink ST 9 ST "value" "[B", .laysFinal ST ST "coder" "B", .fieldLink ST 15 ST "coder" "B",
  .methodLink ST 1 Lib.objectInit, .instanceMethod Lib.objectInit, .code Lib.objectInit ⟨#[0xb1]⟩ 1 none, .methodLink ST 177 Cmp3.yN, .static Cmp3.yN, .methodLink ST 47 CodL.yN, .static CodL.yN,
  .code Cmp3.yN Cmp3.yB 6 (some (.array .byte)), .initialized U16, .arrayClass .byte, .methodLink U16 115 Cmp5.yN, .static Cmp5.yN, .code Cmp5.yN Cmp5.yB 7 (some .int), .code CodL.yN CodL.yB 2 (some .byte)]
theorem tab_of {a : Array Value} {s : State} (h : ∀ w ∈ words, w.before a s = true) : New1.tab.before a s = true := by
  have h5 : Cmp5.tab.before a s = true := unparts (wk h (.code Cmp5.yN Cmp5.yB 7 (some .int))) (wks h (.initialized Cmp5.yN.cls :: Cmp5.site))
  have hc : CodL.tab.before a s = true := unparts (wk h (.code CodL.yN CodL.yB 2 (some .byte))) (wks h (.initialized CodL.yN.cls :: CodL.site))
  have q5 : ∀ w ∈ Cmp5.tab :: words, w.before a s = true := fun w hw => (List.mem_cons.mp hw).elim (fun e => e ▸ h5) (h w)
  have h3 : Cmp3.tab.before a s = true := unparts (wk q5 (.code Cmp3.yN Cmp3.yB 6 (some (.array .byte)))) (wks q5 (.initialized Cmp3.yN.cls :: Cmp3.site))
  have q3 : ∀ w ∈ Cmp3.tab :: CodL.tab :: words, w.before a s = true := fun w hw => (List.mem_cons.mp hw).elim (fun e => e ▸ h3) fun hw => (List.mem_cons.mp hw).elim (fun e => e ▸ hc) (h w)
  have h4 : New4.tab.before a s = true := unparts (wk q3 (.code New4.yN New4.yB 6 none)) (wks q3 (.initialized New4.yN.cls :: New4.site))
  have q4 : ∀ w ∈ New4.tab :: words, w.before a s = true := fun w hw => (List.mem_cons.mp hw).elim (fun e => e ▸ h4) (h w)
  exact unparts (wk q4 (.code New1.yN New1.yB 2 none)) (wks q4 (.initialized New1.yN.cls :: New1.site))
/-- the words ride from the start Z to the walk's own state -/
theorem moved {Z s : State} {a0 args : Array Value} (hZ : Z.Warmed39 s.vm) (hw : ∀ d ∈ words, d.before a0 Z = true) : ∀ d ∈ words, d.before args s = true := fun d hd => by
  have q := hw d hd
  have t : ∀ d ∈ words, d = .arrayClass .byte ∨ (d.onTables && d.keepsFace) = true := by decide +kernel
  rcases t d hd with rfl | t
  · exact RoadKit.mvA hZ q
  · exact RoadKit.mv hZ q t
/-- WHAT COMES BACK, over the tables of the start Z: h the heap at the call, h' behind it -/
def Q (Z : State) (x : Addr) (A : Cell) (h : Heap) (v : Option Value) (h' : Heap) (L : List Loc) : Prop := v = none ∧ (∀ y ∈ L, y.base = x) ∧ RoadKit.Keep h h' [x] ∧ h'.size = h.size + 1 ∧ RoadKit.Exa Z h' x ST ∧ RoadKit.Fld Z h' x ST "value" "[B" (.ref h.size) ∧ RoadKit.Fld Z h' x ST "coder" "B" (.int 0) ∧
  (∃ V : Cell, RoadKit.Arr Z h' h.size V .byte ∧ V.vm = .none ∧ Z.vm.findClass "[B" = some V.cls ∧ V.slots.size = A.slots.size ∧ ∀ j, j < A.slots.size → V.slots[j]? = some (.int (lo8 (cv A j)))) ∧
  ∀ (O n d : String) (w : Value), RoadKit.Fld Z h x O n d w → RoadKit.slotOf Z O n d ≠ RoadKit.slotOf Z ST "value" "[B" → RoadKit.slotOf Z O n d ≠ RoadKit.slotOf Z ST "coder" "B" → RoadKit.Fld Z h' x O n d w
/-- **new String(chars) AT A CALL, IN THE ROAD'S FORM**: for specialBack behind newO: x the fresh String, b the char[] with the cell A -/
theorem back {p : Program} {l : Launch} {e : Env} {R : Room} {s : State} {args : Array Value} {below : List Frame} {len W : Nat} {Z : State} {a0 : Array Value} {h : Heap} (hZ : Z.Warmed39 s.vm) (hw : ∀ d ∈ words, d.before a0 Z = true) {kI : Nat} (wi : (Jvm.Cond.instantiable ST kI).before a0 Z = true)
    {x b : Addr} {A : Cell} {z : Int32} {v0 c0 : Value} (E : RoadKit.Exa Z h x ST) (V : RoadKit.Fld Z h x ST "value" "[B" v0) (C : RoadKit.Fld Z h x ST "coder" "B" c0) (K : RoadKit.Arr Z h b A .char) (hty : Typed .char A) (S : RoadKit.Sta Z h ST "COMPACT_STRINGS" "Z" (.int z)) (hz : ¬ z = 0)
    (l0 : 0 < A.slots.size) (l2 : A.slots.size ≤ 536870912) (hp : ∀ i, i < A.slots.size → ¬ 255 < cv A i) (hfr : 4 ≤ R.frames) (hlo : W + 65 ≤ R.locals) :
    Back l R p e below s args New1.yN len W (fun P a => a = #[.ref x, .ref b] ∧ P.U.heap = h ∧ P.cells + 1 ≤ R.cells ∧ P.slots + A.slots.size ≤ R.slots)
      (fun P _ v B => ∃ L, Q Z x A h v B.U.heap L ∧ B.locs = P.locs ++ L ∧ B.cells = P.cells + 1 ∧ B.slots = P.slots + A.slots.size) := by
  intro m meth c P g ig mk a X hg hsize hdg hW hn hp'
  obtain ⟨rfl, rfl, r1, r2⟩ := hp'
  have al : Z.vm.Alike P.U.vm := hZ.alike.trans X.warmed.alike
  obtain ⟨D, cfV, kV, iV, fV, hD, gV, stV, knV, obV, asV, slV⟩ := id V
  obtain ⟨D', cfC, kC, iC, fC, hD', gC, stC, -, -, asC, slC⟩ := id C
  cases hD.symm.trans hD'
  obtain ⟨D2, kD, e1, e2, e3, e4, e5⟩ := id E
  cases hD.symm.trans e1
  obtain ⟨c2, k2, i1, i2, i3, -⟩ := Cond.instantiable_spec wi
  cases e2.symm.trans i1
  cases e3.symm.trans i2
  obtain ⟨kU, u1, u2⟩ := al.2.2 _ _ e3
  have hB : Blank ST x D P.U := ⟨hD, ⟨knV, fun q hq => by rw [hq] at obV; cases obV⟩, by rw [al.findClass]; exact e2, kU, u1, by rw [u2]; exact i3, by rw [u2]; exact e5 i3⟩
  have F1 : Found ST "value" "[B" fV P.U := ⟨SBG.found_only al ⟨cfV, kV, iV, gV⟩, stV⟩
  have F2 : Found ST "coder" "B" fC P.U := ⟨SBG.found_only al ⟨cfC, kC, iC, gC⟩, stC⟩
  have hA : Ch b A P.U := ⟨⟨K.1, State.isArrayOf_alike al K.2.1, K.2.2, by omega⟩, hty⟩
  have hS : StaticIs P.U ST "COMPACT_STRINGS" "Z" (.int z) := by
    obtain ⟨cfS, iS, kS, fS, st, cS, t1, t2, t3, t4, t5, t6, t7⟩ := S
    exact StaticIs.there (s := { Z with heap := P.U.heap }) ⟨cfS, iS, kS, fS, st, cS, t1, t2, t3, t4, t5, (fun q => by rw [q] at t6; cases t6), t7⟩ al rfl
  obtain ⟨v, B, X', ⟨⟨hv, E', V', q1, q2, q3, q4, q5, q6, q7, q8, q9, q10, q11⟩, hl, hc, hs⟩, st⟩ := New1.pays x D fV fC b A z (tab_of (moved hZ hw)) hfr hlo m meth c P g ig mk _ X hg hsize hdg hW hn ⟨r1, r2, rfl, hB, F1, F2, hA, hS, hz, l0, l2, hp⟩
  have al' : Z.vm.Alike B.U.vm := hZ.alike.trans X'.warmed.alike
  have hsz : E'.slots.size = D.slots.size := by
    obtain ⟨-, -, -, kB, w1, w2, w3⟩ := q1
    obtain ⟨kB', y1, y2⟩ := al'.2.2 _ _ e3
    rw [q2.2.1] at w1
    cases w1.symm.trans y1
    rw [w3, e5 i3, y2]
  refine ⟨v, B, X', ⟨_, ⟨hv, ?_, ⟨by omega, fun y cy hy hn' => q10 y cy (by simpa using hn') hy, fun y cy hy => ?_⟩, q11, ⟨E', _, q1.1, by rw [q2.2.1]; exact e2, by rw [q2.2.1]; exact e3, by rw [q2.1]; exact obV, fun _ => by rw [hsz]; exact e5 i3⟩,
    ⟨E', cfV, kV, iV, fV, q1.1, gV, stV, by rw [q2.1]; exact knV, by rw [q2.1]; exact obV, by rw [q2.2.1]; exact asV, q3⟩, ⟨E', cfC, kC, iC, fC, q1.1, gC, stC, by rw [q2.1]; exact knV, by rw [q2.1]; exact obV, by rw [q2.2.1]; exact asC, q4⟩,
    ⟨V', ⟨q5.1, State.isArrayOf_alike al'.symm q5.2.1, q5.2.2.1⟩, q6, by rw [← al'.findClass]; exact q7, q8, fun j hj => by have := q9 j hj; rwa [Nat.zero_add] at this⟩, fun O n d w F n1 n2 => ?_⟩, hl, hc, hs⟩, st⟩
  · intro y hy
    simp only [List.mem_cons, List.not_mem_nil, or_false] at hy
    rcases hy with rfl | rfl <;> rfl
  · by_cases q : y = x
    · subst q
      cases hD.symm.trans hy
      exact ⟨E', q1.1, q2.2.1, q2.1, hsz⟩
    · exact ⟨cy, q10 y cy q hy, rfl, rfl, rfl⟩
  · obtain ⟨D3, cf, k, i, f, g1, g2, g3, g4, g5, g6, g7⟩ := F
    cases hD.symm.trans g1
    simp only [RoadKit.slotOf, g2, gV, gC, Option.map_some, Option.getD_some] at n1 n2
    exact ⟨E', cf, k, i, f, q1.1, g2, g3, by rw [q2.1]; exact g4, by rw [q2.1]; exact g5, by rw [q2.2.1]; exact g6, by rw [q2.2.2 f.slot (by simp [n1, n2])]; exact g7⟩
end StrChars.Road
namespace StrChars.Road
open Jvm Sem ClassFile Op Lib Jvm.Stand Jvm.Free Jvm.Free.XT
/-- WHAT COMES BACK, the byte[] as a list of values -/
def QA (Z : State) (x : Addr) (zn : Int32) (cs : List Int32) (h : Heap) (v : Option Value) (h' : Heap) (L : List Loc) : Prop := v = none ∧ (∀ y ∈ L, y.base = x) ∧ RoadKit.Keep h h' [x] ∧ h'.size = h.size + 1 ∧ RoadKit.Exa Z h' x ST ∧ RoadKit.Fld Z h' x ST "value" "[B" (.ref h.size) ∧ RoadKit.Fld Z h' x ST "coder" "B" (.int 0) ∧
  (∃ kb, Z.vm.findClass "[B" = some kb ∧ RoadKit.Arv Z h' h.size kb .byte zn (cs.map fun c => .int (lo8 c)) (.int 0)) ∧
  ∀ (O n d : String) (w : Value), RoadKit.Fld Z h x O n d w → RoadKit.slotOf Z O n d ≠ RoadKit.slotOf Z ST "value" "[B" → RoadKit.slotOf Z O n d ≠ RoadKit.slotOf Z ST "coder" "B" → RoadKit.Fld Z h' x O n d w
/-- **new String(chars) AT A CALL, THE ARRAYS AS LISTS**: the char[] at b holds cs, not empty, no char above 255 -/
theorem backArv {p : Program} {l : Launch} {e : Env} {R : Room} {s : State} {args : Array Value} {below : List Frame} {len W : Nat} {Z : State} {a0 : Array Value} {h : Heap} (hZ : Z.Warmed39 s.vm) (hw : ∀ d ∈ words, d.before a0 Z = true) {kI : Nat} (wi : (Jvm.Cond.instantiable ST kI).before a0 Z = true)
    {x b : Addr} {k : ClassId} {zn z : Int32} {cs : List Int32} {dv v0 c0 : Value} (E : RoadKit.Exa Z h x ST) (V : RoadKit.Fld Z h x ST "value" "[B" v0) (C : RoadKit.Fld Z h x ST "coder" "B" c0) (K : RoadKit.Arv Z h b k .char zn (cs.map Value.int) dv) (S : RoadKit.Sta Z h ST "COMPACT_STRINGS" "Z" (.int z)) (hz : ¬ z = 0)
    (hlen : zn.toNatClampNeg = cs.length) (h0 : 0 < cs.length) (hbig : cs.length ≤ 536870912) (hall : ∀ c ∈ cs, ¬ 255 < c) (hfr : 4 ≤ R.frames) (hlo : W + 65 ≤ R.locals) :
    Back l R p e below s args New1.yN len W (fun P a => a = #[.ref x, .ref b] ∧ P.U.heap = h ∧ P.cells + 1 ≤ R.cells ∧ P.slots + cs.length ≤ R.slots)
      (fun P _ v B => ∃ L, QA Z x zn cs h v B.U.heap L ∧ B.locs = P.locs ++ L ∧ B.cells = P.cells + 1 ∧ B.slots = P.slots + cs.length) := by
  obtain ⟨A, K1, K2, K3, K4, K5, K6⟩ := K
  have e : A.slots.size = cs.length := K3.trans hlen
  have hat : ∀ (i : Nat) (hi : i < cs.length), A.slots[i]? = some (.int cs[i]) := fun i hi => by rw [K5 i (by omega)]; simp [List.getD_eq_getElem?_getD, hi]
  have hcv : ∀ (i : Nat) (hi : i < cs.length), cv A i = cs[i] := fun i hi => by unfold cv; rw [hat i hi]
  have hty : Typed .char A := fun i v hv => by
    have hi : i < A.slots.size := (Array.getElem?_eq_some_iff.mp hv).1
    have q := K5 i hi
    rw [hv] at q
    rw [Option.some.inj q]
    exact K6 i hi
  refine Back.mono (back hZ hw wi E V C K1 hty S hz (by omega) (by omega) (fun i hi => by rw [hcv i (by omega)]; exact hall _ (List.getElem_mem _)) hfr hlo) (fun P a hp => ⟨hp.1, hp.2.1, hp.2.2.1, by rw [e]; exact hp.2.2.2⟩) (fun P a v B hp hq => ?_)
  obtain ⟨L, ⟨q1, q2, q3, q4, q5, q6, q7, ⟨V', v1, v2, v3, v4, v5⟩, q9⟩, hl, hc, hs⟩ := hq
  refine ⟨L, ⟨q1, q2, q3, q4, q5, q6, q7, ⟨V'.cls, v3, V', v1, rfl, by rw [v4, e, hlen], K4, fun i hi => ?_, fun i hi => ?_⟩, q9⟩, hl, hc, by rw [hs, e]⟩
  · have hi' : i < cs.length := by omega
    rw [v5 i (by omega), hcv i hi']; simp [List.getD_eq_getElem?_getD, hi']
  · have hi' : i < cs.length := by omega
    simp only [List.getD_eq_getElem?_getD, List.getElem?_map, List.getElem?_eq_getElem hi', Option.map_some, Option.getD_some]
    exact fits_lo8 _
end StrChars.Road
namespace StrChars.Road
open Jvm Sem ClassFile Op Lib Jvm.Stand Jvm.Free Jvm.Free.XT
/-- WHAT COMES BACK, in the writer's own shape -/
def QV (Z : State) (x : Addr) (N : Int32) (bs : List Int32) (h : Heap) (n0 : Nat) (v : Option Value) (h' : Heap) (L : List Loc) : Prop := v = none ∧ RoadKit.Fr n0 L ∧ RoadKit.Keep h h' [x] ∧ RoadKit.Exa Z h' x ST ∧ RoadKit.Fld Z h' x ST "coder" "B" (.int 0) ∧
  ∃ (t : Addr) (kb : ClassId), n0 ≤ t ∧ h.size ≤ t ∧ ¬ t = x ∧ RoadKit.Fld Z h' x ST "value" "[B" (.ref t) ∧ RoadKit.Arv Z h' t kb .byte N (bs.map Value.int) (.int 0)
/-- **new String(chars) AT A CALL, FOR THE WRITER**: a char[] of n known ints, each 0 to 255 -/
theorem backV {p : Program} {l : Launch} {e : Env} {R : Room} {s : State} {args : Array Value} {below : List Frame} {len W : Nat} {Z : State} {a0 : Array Value} {h : Heap} (hZ : Z.Warmed39 s.vm) (hw : ∀ d ∈ words, d.before a0 Z = true) {kI : Nat} (wi : (Jvm.Cond.instantiable ST kI).before a0 Z = true)
    {x b : Addr} {kC : ClassId} {cs bs : List Int32} {d v0 c0 : Value} {z N : Int32} {n n0 : Nat} (hx0 : n0 ≤ x) (hh0 : n0 ≤ h.size) (E : RoadKit.Exa Z h x ST) (V : RoadKit.Fld Z h x ST "value" "[B" v0) (C : RoadKit.Fld Z h x ST "coder" "B" c0) (K : RoadKit.Arv Z h b kC .char N (cs.map Value.int) d) (S : RoadKit.Sta Z h ST "COMPACT_STRINGS" "Z" (.int z)) (hz : ¬ z = 0)
    (hn : cs.length = n) (hN : N = Int32.ofNat n) (l0 : 0 < n) (l2 : n ≤ 4000) (hp : ∀ c ∈ cs, ¬ c < 0 ∧ ¬ (255 : Int32) < c) (hb : bs = cs.map (fun c => c.toInt8.toInt32)) (hfr : 4 ≤ R.frames) (hlo : W + 65 ≤ R.locals) :
    Back l R p e below s args (⟨"java/lang/String", "<init>", "([C)V"⟩ : MethodName) len W (fun P a => a = #[.ref x, .ref b] ∧ P.U.heap = h ∧ P.cells + 1 ≤ R.cells ∧ P.slots + n ≤ R.slots)
      (fun P _ v B => ∃ L, QV Z x N bs h n0 v B.U.heap L ∧ B.locs = P.locs ++ L ∧ B.cells = P.cells + 1 ∧ B.slots = P.slots + n) := by
  subst hn hN hb
  refine Back.mono (backArv hZ hw wi E V C K S hz (n32 (by omega)) l0 (by omega) (fun c hc => (hp c hc).2) hfr hlo) (fun P a hp => hp) (fun P a v B hp hq => ?_)
  obtain ⟨L, ⟨q1, q2, q3, q4, q5, q6, q7, ⟨kb, v1, v2⟩, q9⟩, hl, hc, hs⟩ := hq
  exact ⟨L, ⟨q1, fun y hy => by rw [q2 y hy]; exact hx0, q3, q5, q7, h.size, kb, hh0, Nat.le_refl _, Nat.ne_of_gt E.lt, q6, by rw [List.map_map]; exact v2⟩, hl, hc, hs⟩
end StrChars.Road
end Jvm.Pilot.@@N@@
namespace Jvm.Pilot.@@N@@
open Jvm Jvm.ClassFile Sem Op Lib Jvm.Free Jvm.Stand Jvm.LawKit Jvm.RoadKit Bundle Jvm.Pilot.@@N@@.Jvm.D
theorem own_pn0 : plainName "java/util/AbstractCollection" = true := by first | (simp [plainName, overriddenIn]; done) | decide +kernel
theorem own_d10_0 : decode jdk_22_method_1_code 0 = .ok (.aload_n 0, 1) := by decide +kernel
theorem own_d10_1 : decode jdk_22_method_1_code 1 = .ok (.invokespecial 1, 3) := by decide +kernel
theorem own_d10_4 : decode jdk_22_method_1_code 4 = .ok (.return_, 1) := by decide +kernel
theorem own_pn1 : plainName "java/util/AbstractList" = true := by first | (simp [plainName, overriddenIn]; done) | decide +kernel
theorem own_d9_0 : decode jdk_39_method_1_code 0 = .ok (.aload_n 0, 1) := by decide +kernel
theorem own_d9_1 : decode jdk_39_method_1_code 1 = .ok (.invokespecial 1, 3) := by decide +kernel
theorem own_pd0 : parseMethodDescriptor "()V" = some ⟨[], none⟩ := by decide +kernel
theorem own_d9_4 : decode jdk_39_method_1_code 4 = .ok (.aload_n 0, 1) := by decide +kernel
theorem own_d9_5 : decode jdk_39_method_1_code 5 = .ok (.iconst 0, 1) := by decide +kernel
theorem own_d9_6 : decode jdk_39_method_1_code 6 = .ok (.putfield 7, 3) := by decide +kernel
theorem own_d9_9 : decode jdk_39_method_1_code 9 = .ok (.return_, 1) := by decide +kernel
theorem own_pn2 : plainName "java/util/ArrayList" = true := by first | (simp [plainName, overriddenIn]; done) | decide +kernel
theorem own_d8_0 : decode jdk_38_method_2_code 0 = .ok (.aload_n 0, 1) := by decide +kernel
theorem own_d8_1 : decode jdk_38_method_2_code 1 = .ok (.invokespecial 1, 3) := by decide +kernel
theorem own_d8_4 : decode jdk_38_method_2_code 4 = .ok (.aload_n 0, 1) := by decide +kernel
theorem own_d8_5 : decode jdk_38_method_2_code 5 = .ok (.getstatic 39, 3) := by decide +kernel
theorem own_d8_8 : decode jdk_38_method_2_code 8 = .ok (.putfield 9, 3) := by decide +kernel
theorem own_d8_11 : decode jdk_38_method_2_code 11 = .ok (.return_, 1) := by decide +kernel
theorem own_d15_0 : decode jdk_29_method_65_code 0 = .ok (.iload_n 0, 1) := by decide +kernel
theorem own_d15_1 : decode jdk_29_method_65_code 1 = .ok (.iload_n 1, 1) := by decide +kernel
theorem own_d15_2 : decode jdk_29_method_65_code 2 = .ok (.if_icmp .lt 7, 3) := by decide +kernel
theorem own_d15_9 : decode jdk_29_method_65_code 9 = .ok (.iload_n 1, 1) := by decide +kernel
theorem own_d15_10 : decode jdk_29_method_65_code 10 = .ok (.ireturn, 1) := by decide +kernel
theorem own_d15_5 : decode jdk_29_method_65_code 5 = .ok (.iload_n 0, 1) := by decide +kernel
theorem own_d15_6 : decode jdk_29_method_65_code 6 = .ok (.goto 4, 3) := by decide +kernel
theorem own_d14_0 : decode jdk_38_method_6_code 0 = .ok (.aload_n 0, 1) := by decide +kernel
theorem own_d14_1 : decode jdk_38_method_6_code 1 = .ok (.getfield 9, 3) := by decide +kernel
theorem own_d14_4 : decode jdk_38_method_6_code 4 = .ok (.arraylength, 1) := by decide +kernel
theorem own_d14_5 : decode jdk_38_method_6_code 5 = .ok (.istore_n 2, 1) := by decide +kernel
theorem own_d14_6 : decode jdk_38_method_6_code 6 = .ok (.iload_n 2, 1) := by decide +kernel
theorem own_d14_7 : decode jdk_38_method_6_code 7 = .ok (.ifCond .gt 13, 3) := by decide +kernel
theorem own_d14_10 : decode jdk_38_method_6_code 10 = .ok (.aload_n 0, 1) := by decide +kernel
theorem own_d14_11 : decode jdk_38_method_6_code 11 = .ok (.getfield 9, 3) := by decide +kernel
theorem own_d14_14 : decode jdk_38_method_6_code 14 = .ok (.getstatic 39, 3) := by decide +kernel
theorem own_d14_17 : decode jdk_38_method_6_code 17 = .ok (.if_acmp .eq 28, 3) := by decide +kernel
theorem own_d14_45 : decode jdk_38_method_6_code 45 = .ok (.aload_n 0, 1) := by decide +kernel
theorem own_d14_46 : decode jdk_38_method_6_code 46 = .ok (.bipush 10, 2) := by decide +kernel
theorem own_d14_48 : decode jdk_38_method_6_code 48 = .ok (.iload_n 1, 1) := by decide +kernel
theorem own_d14_49 : decode jdk_38_method_6_code 49 = .ok (.invokestatic 79, 3) := by decide +kernel
theorem own_pd1 : parseMethodDescriptor "(II)I" = some ⟨[.int, .int], some .int⟩ := by decide +kernel
theorem own_d14_52 : decode jdk_38_method_6_code 52 = .ok (.anewarray 7, 3) := by decide +kernel
theorem own_d14_55 : decode jdk_38_method_6_code 55 = .ok (.dup_x1, 1) := by decide +kernel
theorem own_d14_56 : decode jdk_38_method_6_code 56 = .ok (.putfield 9, 3) := by decide +kernel
theorem own_d14_59 : decode jdk_38_method_6_code 59 = .ok (.areturn, 1) := by decide +kernel
theorem own_d13_0 : decode jdk_38_method_7_code 0 = .ok (.aload_n 0, 1) := by decide +kernel
theorem own_d13_1 : decode jdk_38_method_7_code 1 = .ok (.aload_n 0, 1) := by decide +kernel
theorem own_d13_2 : decode jdk_38_method_7_code 2 = .ok (.getfield 48, 3) := by decide +kernel
theorem own_d13_5 : decode jdk_38_method_7_code 5 = .ok (.iconst 1, 1) := by decide +kernel
theorem own_d13_6 : decode jdk_38_method_7_code 6 = .ok (.iadd, 1) := by decide +kernel
theorem own_d13_7 : decode jdk_38_method_7_code 7 = .ok (.invokevirtual 69, 3) := by decide +kernel
theorem own_pd2 : parseMethodDescriptor "(I)[Ljava/lang/Object;" = some ⟨[.int], some (.array (.object "java/lang/Object"))⟩ := by decide +kernel
theorem own_d13_10 : decode jdk_38_method_7_code 10 = .ok (.areturn, 1) := by decide +kernel
theorem own_d12_0 : decode jdk_38_method_24_code 0 = .ok (.iload_n 3, 1) := by decide +kernel
theorem own_d12_1 : decode jdk_38_method_24_code 1 = .ok (.aload_n 2, 1) := by decide +kernel
theorem own_d12_2 : decode jdk_38_method_24_code 2 = .ok (.arraylength, 1) := by decide +kernel
theorem own_d12_3 : decode jdk_38_method_24_code 3 = .ok (.if_icmp .ne 8, 3) := by decide +kernel
theorem own_d12_6 : decode jdk_38_method_24_code 6 = .ok (.aload_n 0, 1) := by decide +kernel
theorem own_d12_7 : decode jdk_38_method_24_code 7 = .ok (.invokevirtual 129, 3) := by decide +kernel
theorem own_pd3 : parseMethodDescriptor "()[Ljava/lang/Object;" = some ⟨[], some (.array (.object "java/lang/Object"))⟩ := by decide +kernel
theorem own_d12_10 : decode jdk_38_method_24_code 10 = .ok (.astore_n 2, 1) := by decide +kernel
theorem own_d12_11 : decode jdk_38_method_24_code 11 = .ok (.aload_n 2, 1) := by decide +kernel
theorem own_d12_12 : decode jdk_38_method_24_code 12 = .ok (.iload_n 3, 1) := by decide +kernel
theorem own_d12_13 : decode jdk_38_method_24_code 13 = .ok (.aload_n 1, 1) := by decide +kernel
theorem own_d12_14 : decode jdk_38_method_24_code 14 = .ok (.aastore, 1) := by decide +kernel
theorem own_d12_15 : decode jdk_38_method_24_code 15 = .ok (.aload_n 0, 1) := by decide +kernel
theorem own_d12_16 : decode jdk_38_method_24_code 16 = .ok (.iload_n 3, 1) := by decide +kernel
theorem own_d12_17 : decode jdk_38_method_24_code 17 = .ok (.iconst 1, 1) := by decide +kernel
theorem own_d12_18 : decode jdk_38_method_24_code 18 = .ok (.iadd, 1) := by decide +kernel
theorem own_d12_19 : decode jdk_38_method_24_code 19 = .ok (.putfield 48, 3) := by decide +kernel
theorem own_d12_22 : decode jdk_38_method_24_code 22 = .ok (.return_, 1) := by decide +kernel
theorem own_d11_0 : decode jdk_38_method_25_code 0 = .ok (.aload_n 0, 1) := by decide +kernel
theorem own_d11_1 : decode jdk_38_method_25_code 1 = .ok (.dup, 1) := by decide +kernel
theorem own_d11_2 : decode jdk_38_method_25_code 2 = .ok (.getfield 63, 3) := by decide +kernel
theorem own_d11_5 : decode jdk_38_method_25_code 5 = .ok (.iconst 1, 1) := by decide +kernel
theorem own_d11_6 : decode jdk_38_method_25_code 6 = .ok (.iadd, 1) := by decide +kernel
theorem own_d11_7 : decode jdk_38_method_25_code 7 = .ok (.putfield 63, 3) := by decide +kernel
theorem own_d11_10 : decode jdk_38_method_25_code 10 = .ok (.aload_n 0, 1) := by decide +kernel
theorem own_d11_11 : decode jdk_38_method_25_code 11 = .ok (.aload_n 1, 1) := by decide +kernel
theorem own_d11_12 : decode jdk_38_method_25_code 12 = .ok (.aload_n 0, 1) := by decide +kernel
theorem own_d11_13 : decode jdk_38_method_25_code 13 = .ok (.getfield 9, 3) := by decide +kernel
theorem own_d11_16 : decode jdk_38_method_25_code 16 = .ok (.aload_n 0, 1) := by decide +kernel
theorem own_d11_17 : decode jdk_38_method_25_code 17 = .ok (.getfield 48, 3) := by decide +kernel
theorem own_d11_20 : decode jdk_38_method_25_code 20 = .ok (.invokevirtual 131, 3) := by decide +kernel
theorem own_pd4 : parseMethodDescriptor "(Ljava/lang/Object;[Ljava/lang/Object;I)V" = some ⟨[(.object "java/lang/Object"), (.array (.object "java/lang/Object")), .int], none⟩ := by decide +kernel
theorem own_d11_23 : decode jdk_38_method_25_code 23 = .ok (.iconst 1, 1) := by decide +kernel
theorem own_d11_24 : decode jdk_38_method_25_code 24 = .ok (.ireturn, 1) := by decide +kernel
theorem own_pn3 : plainName "java/lang/Record" = true := by first | (simp [plainName, overriddenIn]; done) | decide +kernel
theorem own_d21_0 : decode jdk_30_method_1_code 0 = .ok (.aload_n 0, 1) := by decide +kernel
theorem own_d21_1 : decode jdk_30_method_1_code 1 = .ok (.invokespecial 1, 3) := by decide +kernel
theorem own_d21_4 : decode jdk_30_method_1_code 4 = .ok (.return_, 1) := by decide +kernel
theorem own_pn4 : plainName "com/example/corbelpath/corbelpath/TargetFileNamePinLaw" = true := by first | (simp [plainName, overriddenIn]; done) | decide +kernel
theorem own_d1_0 : decode method_2_code 0 = .ok (.iconst 2, 1) := by decide +kernel
theorem own_d1_1 : decode method_2_code 1 = .ok (.newarray .char, 2) := by decide +kernel
theorem own_d1_3 : decode method_2_code 3 = .ok (.astore_n 1, 1) := by decide +kernel
theorem own_d1_4 : decode method_2_code 4 = .ok (.aload_n 1, 1) := by decide +kernel
theorem own_d1_5 : decode method_2_code 5 = .ok (.iconst 0, 1) := by decide +kernel
theorem own_d1_6 : decode method_2_code 6 = .ok (.iload_n 0, 1) := by decide +kernel
theorem own_d1_7 : decode method_2_code 7 = .ok (.sipush 255, 3) := by decide +kernel
theorem own_d1_10 : decode method_2_code 10 = .ok (.iand, 1) := by decide +kernel
theorem own_d1_11 : decode method_2_code 11 = .ok (.i2c, 1) := by decide +kernel
theorem own_d1_12 : decode method_2_code 12 = .ok (.castore, 1) := by decide +kernel
theorem own_d1_13 : decode method_2_code 13 = .ok (.aload_n 1, 1) := by decide +kernel
theorem own_d1_14 : decode method_2_code 14 = .ok (.iconst 1, 1) := by decide +kernel
theorem own_d1_15 : decode method_2_code 15 = .ok (.iload_n 0, 1) := by decide +kernel
theorem own_d1_16 : decode method_2_code 16 = .ok (.bipush 8, 2) := by decide +kernel
theorem own_d1_18 : decode method_2_code 18 = .ok (.iushr, 1) := by decide +kernel
theorem own_d1_19 : decode method_2_code 19 = .ok (.sipush 255, 3) := by decide +kernel
theorem own_d1_22 : decode method_2_code 22 = .ok (.iand, 1) := by decide +kernel
theorem own_d1_23 : decode method_2_code 23 = .ok (.i2c, 1) := by decide +kernel
theorem own_d1_24 : decode method_2_code 24 = .ok (.castore, 1) := by decide +kernel
theorem own_d1_25 : decode method_2_code 25 = .ok (.new 7, 3) := by decide +kernel
theorem own_d1_28 : decode method_2_code 28 = .ok (.dup, 1) := by decide +kernel
theorem own_d1_29 : decode method_2_code 29 = .ok (.aload_n 1, 1) := by decide +kernel
theorem own_d1_30 : decode method_2_code 30 = .ok (.invokespecial 9, 3) := by decide +kernel
theorem own_pd5 : parseMethodDescriptor "([C)V" = some ⟨[(.array .char)], none⟩ := by decide +kernel
theorem own_d1_33 : decode method_2_code 33 = .ok (.areturn, 1) := by decide +kernel
theorem own_pn5 : plainName "java/lang/StringLatin1" = true := by first | (simp [plainName, overriddenIn]; done) | decide +kernel
theorem own_d17_0 : decode jdk_43_method_3_code 0 = .ok (.iload_n 0, 1) := by decide +kernel
theorem own_d17_1 : decode jdk_43_method_3_code 1 = .ok (.sipush 255, 3) := by decide +kernel
theorem own_d17_4 : decode jdk_43_method_3_code 4 = .ok (.if_icmp .gt 7, 3) := by decide +kernel
theorem own_d17_7 : decode jdk_43_method_3_code 7 = .ok (.iconst 1, 1) := by decide +kernel
theorem own_d17_8 : decode jdk_43_method_3_code 8 = .ok (.goto 4, 3) := by decide +kernel
theorem own_d17_12 : decode jdk_43_method_3_code 12 = .ok (.ireturn, 1) := by decide +kernel
theorem own_d18_0 : decode jdk_43_method_46_code 0 = .ok (.iconst 1, 1) := by decide +kernel
theorem own_d18_1 : decode jdk_43_method_46_code 1 = .ok (.newarray .byte, 2) := by decide +kernel
theorem own_d18_3 : decode jdk_43_method_46_code 3 = .ok (.dup, 1) := by decide +kernel
theorem own_d18_4 : decode jdk_43_method_46_code 4 = .ok (.iconst 0, 1) := by decide +kernel
theorem own_d18_5 : decode jdk_43_method_46_code 5 = .ok (.iload_n 0, 1) := by decide +kernel
theorem own_d18_6 : decode jdk_43_method_46_code 6 = .ok (.i2b, 1) := by decide +kernel
theorem own_d18_7 : decode jdk_43_method_46_code 7 = .ok (.bastore, 1) := by decide +kernel
theorem own_d18_8 : decode jdk_43_method_46_code 8 = .ok (.areturn, 1) := by decide +kernel
theorem own_pn6 : plainName "java/lang/String" = true := by first | (simp [plainName, overriddenIn]; done) | decide +kernel
theorem own_d19_0 : decode jdk_42_method_151_code 0 = .ok (.aload_n 0, 1) := by decide +kernel
theorem own_d19_1 : decode jdk_42_method_151_code 1 = .ok (.invokespecial 1, 3) := by decide +kernel
theorem own_d19_4 : decode jdk_42_method_151_code 4 = .ok (.aload_n 0, 1) := by decide +kernel
theorem own_d19_5 : decode jdk_42_method_151_code 5 = .ok (.aload_n 1, 1) := by decide +kernel
theorem own_d19_6 : decode jdk_42_method_151_code 6 = .ok (.putfield 9, 3) := by decide +kernel
theorem own_d19_9 : decode jdk_42_method_151_code 9 = .ok (.aload_n 0, 1) := by decide +kernel
theorem own_d19_10 : decode jdk_42_method_151_code 10 = .ok (.iload_n 2, 1) := by decide +kernel
theorem own_d19_11 : decode jdk_42_method_151_code 11 = .ok (.putfield 15, 3) := by decide +kernel
theorem own_d19_14 : decode jdk_42_method_151_code 14 = .ok (.return_, 1) := by decide +kernel
theorem own_d16_0 : decode jdk_42_method_139_code 0 = .ok (.getstatic 38, 3) := by decide +kernel
theorem own_d16_3 : decode jdk_42_method_139_code 3 = .ok (.ifCond .eq 23, 3) := by decide +kernel
theorem own_d16_6 : decode jdk_42_method_139_code 6 = .ok (.iload_n 0, 1) := by decide +kernel
theorem own_d16_7 : decode jdk_42_method_139_code 7 = .ok (.invokestatic 1015, 3) := by decide +kernel
theorem own_pd6 : parseMethodDescriptor "(C)Z" = some ⟨[.char], some .boolean⟩ := by decide +kernel
theorem own_d16_10 : decode jdk_42_method_139_code 10 = .ok (.ifCond .eq 16, 3) := by decide +kernel
theorem own_d16_13 : decode jdk_42_method_139_code 13 = .ok (.new 10, 3) := by decide +kernel
theorem own_d16_16 : decode jdk_42_method_139_code 16 = .ok (.dup, 1) := by decide +kernel
theorem own_d16_17 : decode jdk_42_method_139_code 17 = .ok (.iload_n 0, 1) := by decide +kernel
theorem own_d16_18 : decode jdk_42_method_139_code 18 = .ok (.invokestatic 1018, 3) := by decide +kernel
theorem own_pd7 : parseMethodDescriptor "(C)[B" = some ⟨[.char], some (.array .byte)⟩ := by decide +kernel
theorem own_d16_21 : decode jdk_42_method_139_code 21 = .ok (.iconst 0, 1) := by decide +kernel
theorem own_d16_22 : decode jdk_42_method_139_code 22 = .ok (.invokespecial 209, 3) := by decide +kernel
theorem own_pd8 : parseMethodDescriptor "([BB)V" = some ⟨[(.array .byte), .byte], none⟩ := by decide +kernel
theorem own_d16_25 : decode jdk_42_method_139_code 25 = .ok (.areturn, 1) := by decide +kernel
theorem own_pn7 : plainName "com/example/corbelpath/corbelpath/Deployment$Target" = true := by first | (simp [plainName, overriddenIn]; done) | decide +kernel
theorem own_d20_0 : decode prog_27_method_1_code 0 = .ok (.aload_n 0, 1) := by decide +kernel
theorem own_d20_1 : decode prog_27_method_1_code 1 = .ok (.invokespecial 1, 3) := by decide +kernel
theorem own_d20_4 : decode prog_27_method_1_code 4 = .ok (.aload_n 0, 1) := by decide +kernel
theorem own_d20_5 : decode prog_27_method_1_code 5 = .ok (.aload_n 1, 1) := by decide +kernel
theorem own_d20_6 : decode prog_27_method_1_code 6 = .ok (.putfield 7, 3) := by decide +kernel
theorem own_d20_9 : decode prog_27_method_1_code 9 = .ok (.aload_n 0, 1) := by decide +kernel
theorem own_d20_10 : decode prog_27_method_1_code 10 = .ok (.aload_n 2, 1) := by decide +kernel
theorem own_d20_11 : decode prog_27_method_1_code 11 = .ok (.putfield 13, 3) := by decide +kernel
theorem own_d20_14 : decode prog_27_method_1_code 14 = .ok (.aload_n 0, 1) := by decide +kernel
theorem own_d20_15 : decode prog_27_method_1_code 15 = .ok (.aload_n 3, 1) := by decide +kernel
theorem own_d20_16 : decode prog_27_method_1_code 16 = .ok (.putfield 16, 3) := by decide +kernel
theorem own_d20_19 : decode prog_27_method_1_code 19 = .ok (.aload_n 0, 1) := by decide +kernel
theorem own_d20_20 : decode prog_27_method_1_code 20 = .ok (.aload 4, 2) := by decide +kernel
theorem own_d20_22 : decode prog_27_method_1_code 22 = .ok (.putfield 19, 3) := by decide +kernel
theorem own_d20_25 : decode prog_27_method_1_code 25 = .ok (.return_, 1) := by decide +kernel
theorem own_pn8 : plainName "jdk/internal/util/Preconditions" = true := by first | (simp [plainName, overriddenIn]; done) | decide +kernel
theorem own_d26_0 : decode jdk_41_method_11_code 0 = .ok (.iload_n 0, 1) := by decide +kernel
theorem own_d26_1 : decode jdk_41_method_11_code 1 = .ok (.ifCond .lt 8, 3) := by decide +kernel
theorem own_d26_4 : decode jdk_41_method_11_code 4 = .ok (.iload_n 0, 1) := by decide +kernel
theorem own_d26_5 : decode jdk_41_method_11_code 5 = .ok (.iload_n 1, 1) := by decide +kernel
theorem own_d26_6 : decode jdk_41_method_11_code 6 = .ok (.if_icmp .lt 10, 3) := by decide +kernel
theorem own_d26_16 : decode jdk_41_method_11_code 16 = .ok (.iload_n 0, 1) := by decide +kernel
theorem own_d26_17 : decode jdk_41_method_11_code 17 = .ok (.ireturn, 1) := by decide +kernel
theorem own_pn9 : plainName "java/util/Objects" = true := by first | (simp [plainName, overriddenIn]; done) | decide +kernel
theorem own_d25_0 : decode jdk_31_method_17_code 0 = .ok (.iload_n 0, 1) := by decide +kernel
theorem own_d25_1 : decode jdk_31_method_17_code 1 = .ok (.iload_n 1, 1) := by decide +kernel
theorem own_d25_2 : decode jdk_31_method_17_code 2 = .ok (.aconst_null, 1) := by decide +kernel
theorem own_d25_3 : decode jdk_31_method_17_code 3 = .ok (.invokestatic 105, 3) := by decide +kernel
theorem own_pd9 : parseMethodDescriptor "(IILjava/util/function/BiFunction;)I" = some ⟨[.int, .int, (.object "java/util/function/BiFunction")], some .int⟩ := by decide +kernel
theorem own_d25_6 : decode jdk_31_method_17_code 6 = .ok (.ireturn, 1) := by decide +kernel
theorem own_d23_0 : decode jdk_38_method_8_code 0 = .ok (.aload_n 0, 1) := by decide +kernel
theorem own_d23_1 : decode jdk_38_method_8_code 1 = .ok (.getfield 48, 3) := by decide +kernel
theorem own_d23_4 : decode jdk_38_method_8_code 4 = .ok (.ireturn, 1) := by decide +kernel
theorem own_d27_0 : decode jdk_38_method_18_code 0 = .ok (.aload_n 0, 1) := by decide +kernel
theorem own_d27_1 : decode jdk_38_method_18_code 1 = .ok (.getfield 9, 3) := by decide +kernel
theorem own_d27_4 : decode jdk_38_method_18_code 4 = .ok (.iload_n 1, 1) := by decide +kernel
theorem own_d27_5 : decode jdk_38_method_18_code 5 = .ok (.aaload, 1) := by decide +kernel
theorem own_d27_6 : decode jdk_38_method_18_code 6 = .ok (.areturn, 1) := by decide +kernel
theorem own_d24_0 : decode jdk_38_method_20_code 0 = .ok (.iload_n 1, 1) := by decide +kernel
theorem own_d24_1 : decode jdk_38_method_20_code 1 = .ok (.aload_n 0, 1) := by decide +kernel
theorem own_d24_2 : decode jdk_38_method_20_code 2 = .ok (.getfield 48, 3) := by decide +kernel
theorem own_d24_5 : decode jdk_38_method_20_code 5 = .ok (.invokestatic 118, 3) := by decide +kernel
theorem own_d24_8 : decode jdk_38_method_20_code 8 = .ok (.pop, 1) := by decide +kernel
theorem own_d24_9 : decode jdk_38_method_20_code 9 = .ok (.aload_n 0, 1) := by decide +kernel
theorem own_d24_10 : decode jdk_38_method_20_code 10 = .ok (.iload_n 1, 1) := by decide +kernel
theorem own_d24_11 : decode jdk_38_method_20_code 11 = .ok (.invokevirtual 123, 3) := by decide +kernel
theorem own_pd10 : parseMethodDescriptor "(I)Ljava/lang/Object;" = some ⟨[.int], some (.object "java/lang/Object")⟩ := by decide +kernel
theorem own_d24_14 : decode jdk_38_method_20_code 14 = .ok (.areturn, 1) := by decide +kernel
theorem own_d22_0 : decode prog_27_method_4_code 0 = .ok (.aload_n 0, 1) := by decide +kernel
theorem own_d22_1 : decode prog_27_method_4_code 1 = .ok (.getfield 19, 3) := by decide +kernel
theorem own_d22_4 : decode prog_27_method_4_code 4 = .ok (.aload_n 0, 1) := by decide +kernel
theorem own_d22_5 : decode prog_27_method_4_code 5 = .ok (.getfield 19, 3) := by decide +kernel
theorem own_d22_8 : decode prog_27_method_4_code 8 = .ok (.invokeinterface 50 1, 5) := by decide +kernel
theorem own_pd11 : parseMethodDescriptor "()I" = some ⟨[], some .int⟩ := by decide +kernel
theorem own_d22_13 : decode prog_27_method_4_code 13 = .ok (.iconst 1, 1) := by decide +kernel
theorem own_d22_14 : decode prog_27_method_4_code 14 = .ok (.isub, 1) := by decide +kernel
theorem own_d22_15 : decode prog_27_method_4_code 15 = .ok (.invokeinterface 56 2, 5) := by decide +kernel
theorem own_d22_20 : decode prog_27_method_4_code 20 = .ok (.checkcast 42, 3) := by decide +kernel
theorem own_d22_23 : decode prog_27_method_4_code 23 = .ok (.areturn, 1) := by decide +kernel
theorem own_d28_0 : decode jdk_42_method_66_code 0 = .ok (.aload_n 0, 1) := by decide +kernel
theorem own_d28_1 : decode jdk_42_method_66_code 1 = .ok (.aload_n 1, 1) := by decide +kernel
theorem own_d28_2 : decode jdk_42_method_66_code 2 = .ok (.if_acmp .ne 5, 3) := by decide +kernel
theorem own_d28_5 : decode jdk_42_method_66_code 5 = .ok (.iconst 1, 1) := by decide +kernel
theorem own_d28_6 : decode jdk_42_method_66_code 6 = .ok (.ireturn, 1) := by decide +kernel
theorem own_pd12 : parseMethodDescriptor "(I)Ljava/lang/String;" = some ⟨[.int], some (.object "java/lang/String")⟩ := by decide +kernel
theorem own_pd13 : parseMethodDescriptor "(Ljava/lang/Object;)Z" = some ⟨[(.object "java/lang/Object")], some .boolean⟩ := by decide +kernel
theorem own_pd14 : parseMethodDescriptor "(C)Ljava/lang/String;" = some ⟨[.char], some (.object "java/lang/String")⟩ := by decide +kernel
theorem own_pd15 : parseMethodDescriptor "(Ljava/lang/String;Ljava/lang/String;Ljava/lang/String;Ljava/util/List;)V" = some ⟨[(.object "java/lang/String"), (.object "java/lang/String"), (.object "java/lang/String"), (.object "java/util/List")], none⟩ := by decide +kernel
theorem own_pd16 : parseMethodDescriptor "()Ljava/lang/String;" = some ⟨[], some (.object "java/lang/String")⟩ := by decide +kernel
theorem own_ch (q : Int32) : ¬ ((q &&& (255 : Int32)).toUInt32.toUInt16.toUInt32.toInt32) < 0 ∧ ¬ (255 : Int32) < ((q &&& (255 : Int32)).toUInt32.toUInt16.toUInt32.toInt32) := by
  rw [i2c_mask]
  have h := c_mask q 255 8 (by decide) (by decide)
  simp only [show ((2 ^ 8 : Nat) : Int) = 256 from by decide] at h
  constructor <;> (rw [Int32.lt_iff_toInt_lt]; first | rw [show (0 : Int32).toInt = 0 from by decide] | rw [show (255 : Int32).toInt = 255 from by decide]) <;> omega
theorem own_nch (q : Int32) : nar .char ((q &&& (255 : Int32)).toUInt32.toUInt16.toUInt32.toInt32) = ((q &&& (255 : Int32)).toUInt32.toUInt16.toUInt32.toInt32) := by
  show ((q &&& (255 : Int32)).toUInt32.toUInt16.toUInt32.toInt32).toUInt32.toUInt16.toUInt32.toInt32 = _
  rw [i2c_mask, i2c_mask]
theorem own_cnt (q : Int32) : (((q &&& (2147483647 : Int32)) % (3 : Int32)) + (1 : Int32)) = (1 : Int32) ∨ (((q &&& (2147483647 : Int32)) % (3 : Int32)) + (1 : Int32)) = (2 : Int32) ∨ (((q &&& (2147483647 : Int32)) % (3 : Int32)) + (1 : Int32)) = (3 : Int32) := by
  have h := c_mask q 2147483647 31 (by decide) (by decide)
  have e := (c_irem (q &&& (2147483647 : Int32)) 3 3 (by decide)).1 (by rw [h]; exact Int.emod_nonneg _ (by decide))
  have c := c_iadd ((q &&& (2147483647 : Int32)) % (3 : Int32)) 1
  have r := rng32 (((q &&& (2147483647 : Int32)) % (3 : Int32)) + 1)
  rw [show (1 : Int32).toInt = 1 from by decide] at c
  simp only [← Int32.toInt_inj, show (1 : Int32).toInt = 1 from by decide, show (2 : Int32).toInt = 2 from by decide, show (3 : Int32).toInt = 3 from by decide]
  omega
theorem own_len31 {args : Array Value} {first s : State} {o : Option Outcome} {idx : List Nat} {t : Term} {v : Value} {a : Addr} {cell : Cell} (ht : t.eval args first o idx s = some (.ref a)) (hc : s.arrayAt? a = some cell) (h : (Term.length t).eval args first o idx s = some v) : cell.slots.size < 2 ^ 31 := by
  by_cases q : cell.slots.size < 2147483648
  · exact q
  · exfalso
    simp [Term.eval, ht, hc, q] at h

def own_Def (Z : State) (db : Addr) (dc : Cell) : Prop := Sta Z Z.heap "java/util/ArrayList" "DEFAULTCAPACITY_EMPTY_ELEMENTDATA" "[Ljava/lang/Object;" (.ref db) ∧ Arr Z Z.heap db dc (.object "java/lang/Object") ∧ dc.slots.size = 0
theorem own_defV {Z : State} {h : Heap} {n0 : Nat} {db : Addr} {dc : Cell} (D : own_Def Z db dc) (O : Old Z n0 h) : Arv Z h db dc.cls (.object "java/lang/Object") (0 : Int32) [] .null :=
  ⟨dc, Arr.ext O.2 D.2.1, rfl, D.2.2, by decide, fun k hk => absurd hk (by rw [D.2.2]; omega), fun k hk => absurd hk (by rw [D.2.2]; omega)⟩
theorem own_zero {n : Nat} (h : n < 2 ^ 31) (e : n.toInt32 = 0) : n = 0 := by
  have := congrArg Int32.toInt e
  rw [show (0 : Int32).toInt = 0 from by decide, len_toInt h] at this
  omega
def own_mx (a b : Int32) : Int32 := if a < b then b else a

theorem own_i_AbstractCollection_ef (m : MethodId) (x0 : Addr) : entryFrame m #[(.ref x0)] 1 = mkF m 0 #[.val (.ref x0)] [] := by first | (simp [entryFrame, mkF, argsToLocals, Value.category]; done) | rfl
def own_i_AbstractCollection_Q (Z : State) (a1 : Addr) (h0 : Heap) (n0 : Nat) (v : Option Value) (h : Heap) (L : List Loc) : Prop := (v = none ∧ Fr n0 L ∧ h = h0)
set_option maxRecDepth 65536 in
set_option maxHeartbeats 40000000 in
theorem own_i_AbstractCollection (l : Launch) (Z : State) (a0 : Array Value) (hw : ∀ d ∈ tables_1, d.before a0 Z = true) (ws : List Jvm.Cond) (a1 : Addr) (h0 : Heap) (n0 : Nat) (Z0 : n0 ≤ h0.size)  :
    MetFree l (⟨"java/util/AbstractCollection", "<init>", "()V"⟩ : MethodName) (head1 (Jvm.Cond.code (⟨"java/util/AbstractCollection", "<init>", "()V"⟩ : MethodName) jdk_22_method_1_code 1 none :: ws) ({ frames := 1, cells := 0, slots := 0, locals := 12 } : Room)) (fun a U => a = #[(.ref a1)] ∧ Z.Warmed39 U.vm ∧ U.heap = h0) (fun _ _ _ _ _ => True) (fun _ U o U' => ∃ v L, o = .returned v ∧ own_i_AbstractCollection_Q Z a1 h0 n0 v U'.heap L ∧ FrameEnd U o U' L ({ frames := 1, cells := 0, slots := 0, locals := 12 } : Room).cells ({ frames := 1, cells := 0, slots := 0, locals := 12 } : Room).slots) := by
  refine MetFree.of_bodySF (plainFor_of_name own_pn0) hisR ?_
  intro p e s m args below meth c s₁ Bd hml0 hP hK
  obtain ⟨rfl, hZ, hh⟩ := hP
  have hx := Bd.exec
  have hby := Bd.bytes
  have hlk : meth.locks = false := BodyLoose.notSynchronized Bd
  have hml : c.maxLocals = 1 := hml0
  have hown : s.vm.findClass "java/util/AbstractCollection" = some m.cls := findClass_of_methodNamed Bd.named
  have hnm := (name_of_methodNamed Bd.named Bd.method).1
  have X0 : Stand p l e ({ frames := 1, cells := 0, slots := 0, locals := 12 } : Room) s m #[(.ref a1)] below meth c s₁ [] 0 0 := Stand.of_body Bd
  have e0 : s₁.heap = h0 := by rw [← hh, Bd.state]; rfl
  have N0 := Fr.nil n0
  refine own_start (QQ := own_i_AbstractCollection_Q Z a1 h0 n0) (rc := ({ frames := 1, cells := 0, slots := 0, locals := 12 } : Room).cells) (rs := ({ frames := 1, cells := 0, slots := 0, locals := 12 } : Room).slots) (own_i_AbstractCollection_ef m a1 ) ?_
  show own_G p.tables e below _ (s₁.setTop (mkF m 0 #[.val (.ref a1)] []))
  refine own_fs (XS.aloadN X0.here hx rfl (hb hby own_d10_0) rfl rfl (Steps.refl _)) ?_
  show own_G p.tables e below _ (s₁.setTop (mkF m 1 #[.val (.ref a1)] [(.ref a1)]))
  obtain ⟨T1, X1, e1, st1⟩ := initO X0 hx hZ hown (hw _ (List.mem_of_getElem? (i := 53) rfl)) (hw _ (List.mem_of_getElem? (i := 17) rfl)) (hw _ (List.mem_of_getElem? (i := 18) rfl)) e0 (g := (mkF m 1 #[.val (.ref a1)] [(.ref a1)])) rfl (by rw [hml]; rfl) rfl (hb hby own_d10_1) (by decide) (W := 0) (by show 2 * 0 + _ ≤ _; exact Nat.le_of_eq rfl) (by decide)
  refine own_fs (st1 _ (Steps.refl _)) ?_
  show own_G p.tables e below _ (T1.setTop (mkF m 4 #[.val (.ref a1)] []))
  exact own_retV X1 hx Bd.returns hlk (hb hby own_d10_4) (by decide) (by decide) e1 ⟨rfl, N0, rfl⟩
theorem own_i_AbstractList_ef (m : MethodId) (x0 : Addr) : entryFrame m #[(.ref x0)] 1 = mkF m 0 #[.val (.ref x0)] [] := by first | (simp [entryFrame, mkF, argsToLocals, Value.category]; done) | rfl
def own_i_AbstractList_Q (Z : State) (a1 : Addr) (u1 : Int32) (u2 : Value) (u3 : Int32) (h0 : Heap) (n0 : Nat) (v : Option Value) (h : Heap) (L : List Loc) : Prop := (v = none ∧ Fr n0 L ∧ Keep h0 h [a1] ∧ (Fld Z h a1 "java/util/AbstractList" "modCount" "I" (.int (0 : Int32))) ∧ (Fld Z h a1 "java/util/ArrayList" "elementData" "[Ljava/lang/Object;" u2) ∧ (Fld Z h a1 "java/util/ArrayList" "size" "I" (.int u3)))
set_option maxRecDepth 65536 in
set_option maxHeartbeats 40000000 in
theorem own_i_AbstractList (l : Launch) (Z : State) (a0 : Array Value) (hw : ∀ d ∈ tables_1, d.before a0 Z = true) (ws : List Jvm.Cond) (a1 : Addr) (u1 : Int32) (u2 : Value) (u3 : Int32) (h0 : Heap) (n0 : Nat) (Z0 : n0 ≤ h0.size) (hE_a1 : Exa Z h0 a1 "java/util/ArrayList") (hF_modCount_a1 : Fld Z h0 a1 "java/util/AbstractList" "modCount" "I" (.int u1)) (hF_elementData_a1 : Fld Z h0 a1 "java/util/ArrayList" "elementData" "[Ljava/lang/Object;" u2) (hF_size_a1 : Fld Z h0 a1 "java/util/ArrayList" "size" "I" (.int u3)) (ge_a1 : n0 ≤ a1) :
    MetFree l (⟨"java/util/AbstractList", "<init>", "()V"⟩ : MethodName) (head1 (Jvm.Cond.code (⟨"java/util/AbstractList", "<init>", "()V"⟩ : MethodName) jdk_39_method_1_code 1 none :: ws) ({ frames := 2, cells := 0, slots := 0, locals := 24 } : Room)) (fun a U => a = #[(.ref a1)] ∧ Z.Warmed39 U.vm ∧ U.heap = h0) (fun _ _ _ _ _ => True) (fun _ U o U' => ∃ v L, o = .returned v ∧ own_i_AbstractList_Q Z a1 u1 u2 u3 h0 n0 v U'.heap L ∧ FrameEnd U o U' L ({ frames := 2, cells := 0, slots := 0, locals := 24 } : Room).cells ({ frames := 2, cells := 0, slots := 0, locals := 24 } : Room).slots) := by
  refine MetFree.of_bodySF (plainFor_of_name own_pn1) hisR ?_
  intro p e s m args below meth c s₁ Bd hml0 hP hK
  obtain ⟨rfl, hZ, hh⟩ := hP
  have hx := Bd.exec
  have hby := Bd.bytes
  have hlk : meth.locks = false := BodyLoose.notSynchronized Bd
  have hml : c.maxLocals = 1 := hml0
  have hown : s.vm.findClass "java/util/AbstractList" = some m.cls := findClass_of_methodNamed Bd.named
  have hnm := (name_of_methodNamed Bd.named Bd.method).1
  have X0 : Stand p l e ({ frames := 2, cells := 0, slots := 0, locals := 24 } : Room) s m #[(.ref a1)] below meth c s₁ [] 0 0 := Stand.of_body Bd
  have e0 : s₁.heap = h0 := by rw [← hh, Bd.state]; rfl
  have N0 := Fr.nil n0
  refine own_start (QQ := own_i_AbstractList_Q Z a1 u1 u2 u3 h0 n0) (rc := ({ frames := 2, cells := 0, slots := 0, locals := 24 } : Room).cells) (rs := ({ frames := 2, cells := 0, slots := 0, locals := 24 } : Room).slots) (own_i_AbstractList_ef m a1 ) ?_
  show own_G p.tables e below _ (s₁.setTop (mkF m 0 #[.val (.ref a1)] []))
  refine own_fs (XS.aloadN X0.here hx rfl (hb hby own_d9_0) rfl rfl (Steps.refl _)) ?_
  show own_G p.tables e below _ (s₁.setTop (mkF m 1 #[.val (.ref a1)] [(.ref a1)]))
  have Zs3 : n0 ≤ h0.size := Z0
  obtain ⟨_, _, ⟨T2, L2, k2, n2⟩, -, X2, ⟨Lc2, hQ2, l2, y2, z2⟩, st2⟩ := X0.specialBack hx (y := (⟨"java/util/AbstractCollection", "<init>", "()V"⟩ : MethodName)) rfl hown (mvT hZ (hw _ (List.mem_of_getElem? (i := 47) rfl))) (mvT hZ (hw _ (List.mem_of_getElem? (i := 48) rfl))) (mvT hZ (hw _ (List.mem_of_getElem? (i := 52) rfl))) (by decide) (backOf (W := 0) (own_i_AbstractCollection l Z a0 hw [] a1 h0 n0 Zs3 ) hZ (hw _ (List.mem_of_getElem? (i := 52) rfl)) (hw _ (List.mem_of_getElem? (i := 51) rfl)) (by decide) (by decide)) (g := (mkF m 1 #[.val (.ref a1)] [(.ref a1)])) rfl (by rw [hml]; rfl) (Steps.refl _) (a := a1) (argsL := []) (rest := []) (lenOf own_pd0 rfl) rfl (by show 2 * 0 + _ ≤ _; exact Nat.le_of_eq rfl) (hb hby own_d9_1) (fun _ _ => ⟨rfl, e0, (by decide : 0 + 0 ≤ _), (by decide : 0 + 0 ≤ _)⟩)
  dsimp only [Pt.U, Pt.locs, Pt.cells, Pt.slots] at X2 l2 y2 z2 st2 hQ2
  subst l2 y2 z2
  obtain ⟨rfl, Nq2, e2⟩ := hQ2
  have N2 := Fr.app N0 Nq2
  refine own_fs st2 ?_
  show own_G p.tables e below _ (T2.setTop (mkF m 4 #[.val (.ref a1)] []))
  refine own_fs (XS.aloadN X2.here hx rfl (hb hby own_d9_4) rfl rfl (Steps.refl _)) ?_
  show own_G p.tables e below _ (T2.setTop (mkF m 5 #[.val (.ref a1)] [(.ref a1)]))
  refine own_fs (XS.iconst X2.here hx rfl (hb hby own_d9_5) (Steps.refl _)) ?_
  show own_G p.tables e below _ (T2.setTop (mkF m 6 #[.val (.ref a1)] [(.int (0 : Int32)), (.ref a1)]))
  obtain ⟨T4, h4, X4, e4, W4, st4⟩ := putF X2 hx hZ hown (host := "") (Or.inl (hw _ (List.mem_of_getElem? (i := 54) rfl))) Via.refl e2 hF_modCount_a1 hE_a1 (Or.inl (hw _ (List.mem_of_getElem? (i := 55) rfl))) (hw _ (List.mem_of_getElem? (i := 36) rfl)) (ty := .int) (by decide) rfl rfl (g := (mkF m 6 #[.val (.ref a1)] [(.int (0 : Int32)), (.ref a1)])) rfl rfl (hb hby own_d9_6)
  refine own_fs (st4 _ (Steps.refl _)) ?_
  have Fw4 := Fld.same W4 hF_modCount_a1
  have N4 := Fr.snoc X4 N2 ge_a1
  show own_G p.tables e below _ (T4.setTop (mkF m 9 #[.val (.ref a1)] []))
  exact own_retV X4 hx Bd.returns hlk (hb hby own_d9_9) (by decide) (by decide) e4 ⟨rfl, N4, ((Keep.refl _ _).wr W4 (Or.inl (List.mem_of_getElem? (i := 0) rfl))), Fw4, (Fld.other W4 hF_elementData_a1 (Or.inr (slot_ne (Or.inl (hw _ (List.mem_of_getElem? (i := 58) rfl))) (Or.inl (hw _ (List.mem_of_getElem? (i := 55) rfl))) (by decide) (t := (.array (.object "java/lang/Object"))) (t' := .int) (by decide) (by decide)))), (Fld.other W4 hF_size_a1 (Or.inr (slot_ne (Or.inl (hw _ (List.mem_of_getElem? (i := 67) rfl))) (Or.inl (hw _ (List.mem_of_getElem? (i := 55) rfl))) (by decide) (t := .int) (t' := .int) (by decide) (by decide))))⟩
theorem own_i_ArrayList_ef (m : MethodId) (x0 : Addr) : entryFrame m #[(.ref x0)] 1 = mkF m 0 #[.val (.ref x0)] [] := by first | (simp [entryFrame, mkF, argsToLocals, Value.category]; done) | rfl
def own_i_ArrayList_Q (Z : State) (a1 : Addr) (u1 : Int32) (u2 : Value) (u3 : Int32) (db : Addr) (dc : Cell) (h0 : Heap) (n0 : Nat) (v : Option Value) (h : Heap) (L : List Loc) : Prop := (v = none ∧ Fr n0 L ∧ Keep h0 h [a1] ∧ (Fld Z h a1 "java/util/AbstractList" "modCount" "I" (.int (0 : Int32))) ∧ (Fld Z h a1 "java/util/ArrayList" "elementData" "[Ljava/lang/Object;" (.ref db)) ∧ (Fld Z h a1 "java/util/ArrayList" "size" "I" (.int u3)))
set_option maxRecDepth 65536 in
set_option maxHeartbeats 40000000 in
theorem own_i_ArrayList (l : Launch) (Z : State) (a0 : Array Value) (hw : ∀ d ∈ tables_1, d.before a0 Z = true) (ws : List Jvm.Cond) (a1 : Addr) (u1 : Int32) (u2 : Value) (u3 : Int32) (db : Addr) (dc : Cell) (h0 : Heap) (n0 : Nat) (Z0 : n0 ≤ h0.size) (hE_a1 : Exa Z h0 a1 "java/util/ArrayList") (hF_modCount_a1 : Fld Z h0 a1 "java/util/AbstractList" "modCount" "I" (.int u1)) (hF_elementData_a1 : Fld Z h0 a1 "java/util/ArrayList" "elementData" "[Ljava/lang/Object;" u2) (hF_size_a1 : Fld Z h0 a1 "java/util/ArrayList" "size" "I" (.int u3)) (ge_a1 : n0 ≤ a1) (hDef : own_Def Z db dc) (hOld : Old Z n0 h0) :
    MetFree l (⟨"java/util/ArrayList", "<init>", "()V"⟩ : MethodName) (head1 (Jvm.Cond.code (⟨"java/util/ArrayList", "<init>", "()V"⟩ : MethodName) jdk_38_method_2_code 1 none :: ws) ({ frames := 3, cells := 0, slots := 0, locals := 36 } : Room)) (fun a U => a = #[(.ref a1)] ∧ Z.Warmed39 U.vm ∧ U.heap = h0) (fun _ _ _ _ _ => True) (fun _ U o U' => ∃ v L, o = .returned v ∧ own_i_ArrayList_Q Z a1 u1 u2 u3 db dc h0 n0 v U'.heap L ∧ FrameEnd U o U' L ({ frames := 3, cells := 0, slots := 0, locals := 36 } : Room).cells ({ frames := 3, cells := 0, slots := 0, locals := 36 } : Room).slots) := by
  refine MetFree.of_bodySF (plainFor_of_name own_pn2) hisR ?_
  intro p e s m args below meth c s₁ Bd hml0 hP hK
  obtain ⟨rfl, hZ, hh⟩ := hP
  have hx := Bd.exec
  have hby := Bd.bytes
  have hlk : meth.locks = false := BodyLoose.notSynchronized Bd
  have hml : c.maxLocals = 1 := hml0
  have hown : s.vm.findClass "java/util/ArrayList" = some m.cls := findClass_of_methodNamed Bd.named
  have hnm := (name_of_methodNamed Bd.named Bd.method).1
  have X0 : Stand p l e ({ frames := 3, cells := 0, slots := 0, locals := 36 } : Room) s m #[(.ref a1)] below meth c s₁ [] 0 0 := Stand.of_body Bd
  have e0 : s₁.heap = h0 := by rw [← hh, Bd.state]; rfl
  have N0 := Fr.nil n0
  refine own_start (QQ := own_i_ArrayList_Q Z a1 u1 u2 u3 db dc h0 n0) (rc := ({ frames := 3, cells := 0, slots := 0, locals := 36 } : Room).cells) (rs := ({ frames := 3, cells := 0, slots := 0, locals := 36 } : Room).slots) (own_i_ArrayList_ef m a1 ) ?_
  show own_G p.tables e below _ (s₁.setTop (mkF m 0 #[.val (.ref a1)] []))
  refine own_fs (XS.aloadN X0.here hx rfl (hb hby own_d8_0) rfl rfl (Steps.refl _)) ?_
  show own_G p.tables e below _ (s₁.setTop (mkF m 1 #[.val (.ref a1)] [(.ref a1)]))
  have Zs3 : n0 ≤ h0.size := Z0
  obtain ⟨_, _, ⟨T2, L2, k2, n2⟩, -, X2, ⟨Lc2, hQ2, l2, y2, z2⟩, st2⟩ := X0.specialBack hx (y := (⟨"java/util/AbstractList", "<init>", "()V"⟩ : MethodName)) rfl hown (mvT hZ (hw _ (List.mem_of_getElem? (i := 41) rfl))) (mvT hZ (hw _ (List.mem_of_getElem? (i := 42) rfl))) (mvT hZ (hw _ (List.mem_of_getElem? (i := 46) rfl))) (by decide) (backOf (W := 0) (own_i_AbstractList l Z a0 hw [] a1 u1 u2 u3 h0 n0 Zs3 hE_a1 hF_modCount_a1 hF_elementData_a1 hF_size_a1 ge_a1) hZ (hw _ (List.mem_of_getElem? (i := 46) rfl)) (hw _ (List.mem_of_getElem? (i := 45) rfl)) (by decide) (by decide)) (g := (mkF m 1 #[.val (.ref a1)] [(.ref a1)])) rfl (by rw [hml]; rfl) (Steps.refl _) (a := a1) (argsL := []) (rest := []) (lenOf own_pd0 rfl) rfl (by show 2 * 0 + _ ≤ _; exact Nat.le_of_eq rfl) (hb hby own_d8_1) (fun _ _ => ⟨rfl, e0, (by decide : 0 + 0 ≤ _), (by decide : 0 + 0 ≤ _)⟩)
  dsimp only [Pt.U, Pt.locs, Pt.cells, Pt.slots] at X2 l2 y2 z2 st2 hQ2
  subst l2 y2 z2
  obtain ⟨h2, e2⟩ : ∃ h, T2.heap = h := ⟨_, rfl⟩
  rw [e2] at hQ2
  obtain ⟨rfl, Nq2, K2, P1_0, P1_1, P1_2⟩ := hQ2
  have N2 := Fr.app N0 Nq2
  refine own_fs st2 ?_
  show own_G p.tables e below _ (T2.setTop (mkF m 4 #[.val (.ref a1)] []))
  refine own_fs (XS.aloadN X2.here hx rfl (hb hby own_d8_4) rfl rfl (Steps.refl _)) ?_
  show own_G p.tables e below _ (T2.setTop (mkF m 5 #[.val (.ref a1)] [(.ref a1)]))
  obtain ⟨T4, X4, e4, st4⟩ := getS2 X2 hx hZ hown (host := "") (Or.inl (hw _ (List.mem_of_getElem? (i := 56) rfl))) Via.refl e2 (Sta.ext (Old.keep hOld K2 (allS ge_a1 all0)).2 hDef.1) (g := (mkF m 5 #[.val (.ref a1)] [(.ref a1)])) rfl (hb hby own_d8_5)
  refine own_fs (st4 _ (Steps.refl _)) ?_
  show own_G p.tables e below _ (T4.setTop (mkF m 8 #[.val (.ref a1)] [(.ref db), (.ref a1)]))
  obtain ⟨T5, h5, X5, e5, W5, st5⟩ := putF X4 hx hZ hown (host := "") (Or.inl (hw _ (List.mem_of_getElem? (i := 57) rfl))) Via.refl e4 P1_1 (hE_a1.keep K2) (Or.inl (hw _ (List.mem_of_getElem? (i := 58) rfl))) (hw _ (List.mem_of_getElem? (i := 36) rfl)) (ty := (.array (.object "java/lang/Object"))) (by decide) rfl rfl (g := (mkF m 8 #[.val (.ref a1)] [(.ref db), (.ref a1)])) rfl rfl (hb hby own_d8_8)
  refine own_fs (st5 _ (Steps.refl _)) ?_
  have Fw5 := Fld.same W5 P1_1
  have N5 := Fr.snoc X5 N2 ge_a1
  show own_G p.tables e below _ (T5.setTop (mkF m 11 #[.val (.ref a1)] []))
  exact own_retV X5 hx Bd.returns hlk (hb hby own_d8_11) (by decide) (by decide) e5 ⟨rfl, N5, (((Keep.refl _ _).trans K2 (allS (Or.inl (List.mem_of_getElem? (i := 0) rfl)) all0)).wr W5 (Or.inl (List.mem_of_getElem? (i := 0) rfl))), (Fld.other W5 P1_0 (Or.inr (slot_ne (Or.inl (hw _ (List.mem_of_getElem? (i := 55) rfl))) (Or.inl (hw _ (List.mem_of_getElem? (i := 58) rfl))) (by decide) (t := .int) (t' := (.array (.object "java/lang/Object"))) (by decide) (by decide)))), Fw5, (Fld.other W5 P1_2 (Or.inr (slot_ne (Or.inl (hw _ (List.mem_of_getElem? (i := 67) rfl))) (Or.inl (hw _ (List.mem_of_getElem? (i := 58) rfl))) (by decide) (t := .int) (t' := (.array (.object "java/lang/Object"))) (by decide) (by decide))))⟩
theorem own_max_ef (m : MethodId) (x0 : Int32) (x1 : Int32) : entryFrame m #[(.int x0), (.int x1)] 2 = mkF m 0 #[.val (.int x0), .val (.int x1)] [] := by first | (simp [entryFrame, mkF, argsToLocals, Value.category]; done) | rfl
def own_max_Q (Z : State) (p1 : Int32) (p2 : Int32) (h0 : Heap) (n0 : Nat) (v : Option Value) (h : Heap) (L : List Loc) : Prop := (v = some (.int (own_mx p1 p2)) ∧ Fr n0 L ∧ h = h0)
set_option maxRecDepth 65536 in
set_option maxHeartbeats 40000000 in
theorem own_max (l : Launch) (Z : State) (a0 : Array Value) (hw : ∀ d ∈ tables_1, d.before a0 Z = true) (ws : List Jvm.Cond) (p1 : Int32) (p2 : Int32) (h0 : Heap) (n0 : Nat) (Z0 : n0 ≤ h0.size)  :
    MetFree l (⟨"java/lang/Math", "max", "(II)I"⟩ : MethodName) (head1 (Jvm.Cond.code (⟨"java/lang/Math", "max", "(II)I"⟩ : MethodName) jdk_29_method_65_code 2 (some .int) :: ws) ({ frames := 0, cells := 0, slots := 0, locals := 0 } : Room)) (fun a U => a = #[(.int p1), (.int p2)] ∧ Z.Warmed39 U.vm ∧ U.heap = h0) (fun _ _ _ _ _ => True) (fun _ U o U' => ∃ v L, o = .returned v ∧ own_max_Q Z p1 p2 h0 n0 v U'.heap L ∧ FrameEnd U o U' L ({ frames := 0, cells := 0, slots := 0, locals := 0 } : Room).cells ({ frames := 0, cells := 0, slots := 0, locals := 0 } : Room).slots) := by
  refine MetFree.of_bodySF (Jvm.Free.JP.mathPlain rfl (by decide +kernel)) hisR ?_
  intro p e s m args below meth c s₁ Bd hml0 hP hK
  obtain ⟨rfl, hZ, hh⟩ := hP
  have hx := Bd.exec
  have hby := Bd.bytes
  have hlk : meth.locks = false := BodyLoose.notSynchronized Bd
  have hml : c.maxLocals = 2 := hml0
  have hown : s.vm.findClass "java/lang/Math" = some m.cls := findClass_of_methodNamed Bd.named
  have hnm := (name_of_methodNamed Bd.named Bd.method).1
  have X0 : Stand p l e ({ frames := 0, cells := 0, slots := 0, locals := 0 } : Room) s m #[(.int p1), (.int p2)] below meth c s₁ [] 0 0 := Stand.of_body Bd
  have e0 : s₁.heap = h0 := by rw [← hh, Bd.state]; rfl
  have N0 := Fr.nil n0
  refine own_start (QQ := own_max_Q Z p1 p2 h0 n0) (rc := ({ frames := 0, cells := 0, slots := 0, locals := 0 } : Room).cells) (rs := ({ frames := 0, cells := 0, slots := 0, locals := 0 } : Room).slots) (own_max_ef m p1 p2 ) ?_
  show own_G p.tables e below _ (s₁.setTop (mkF m 0 #[.val (.int p1), .val (.int p2)] []))
  refine own_fs (XS.iloadN X0.here hx rfl (hb hby own_d15_0) rfl (Steps.refl _)) ?_
  show own_G p.tables e below _ (s₁.setTop (mkF m 1 #[.val (.int p1), .val (.int p2)] [(.int p1)]))
  refine own_fs (XS.iloadN X0.here hx rfl (hb hby own_d15_1) rfl (Steps.refl _)) ?_
  show own_G p.tables e below _ (s₁.setTop (mkF m 2 #[.val (.int p1), .val (.int p2)] [(.int p2), (.int p1)]))
  by_cases hc2 : p1 < p2
  · refine own_fs (XS.icmpYes X0.here hx rfl (pc0 := 2) (pc' := 9) rfl (hb hby own_d15_2) rfl (XT.ii_lt_t hc2) (by decide) (by decide) (Steps.refl _)) ?_
    show own_G p.tables e below _ (s₁.setTop (mkF m 9 #[.val (.int p1), .val (.int p2)] []))
    refine own_fs (XS.iloadN X0.here hx rfl (hb hby own_d15_9) rfl (Steps.refl _)) ?_
    show own_G p.tables e below _ (s₁.setTop (mkF m 10 #[.val (.int p1), .val (.int p2)] [(.int p2)]))
    exact own_retI X0 hx Bd.returns hlk (hb hby own_d15_10) (by decide) (by decide) e0 ⟨(by simp only [own_mx, if_pos hc2]), N0, rfl⟩
  · refine own_fs (XS.icmpNo X0.here hx rfl (hb hby own_d15_2) rfl (XT.ii_lt_f hc2) (Steps.refl _)) ?_
    show own_G p.tables e below _ (s₁.setTop (mkF m 5 #[.val (.int p1), .val (.int p2)] []))
    refine own_fs (XS.iloadN X0.here hx rfl (hb hby own_d15_5) rfl (Steps.refl _)) ?_
    show own_G p.tables e below _ (s₁.setTop (mkF m 6 #[.val (.int p1), .val (.int p2)] [(.int p1)]))
    refine own_fs (XS.goto X0.here hx rfl (pc0 := 6) (pc' := 10) rfl (hb hby own_d15_6) (by decide) (by decide) (Steps.refl _)) ?_
    show own_G p.tables e below _ (s₁.setTop (mkF m 10 #[.val (.int p1), .val (.int p2)] [(.int p1)]))
    exact own_retI X0 hx Bd.returns hlk (hb hby own_d15_10) (by decide) (by decide) e0 ⟨(by simp only [own_mx, if_neg hc2]), N0, rfl⟩
theorem own_grow1_ef (m : MethodId) (x0 : Addr) (x1 : Int32) : entryFrame m #[(.ref x0), (.int x1)] 4 = mkF m 0 #[.val (.ref x0), .val (.int x1), .unset, .unset] [] := by first | (simp [entryFrame, mkF, argsToLocals, Value.category]; done) | rfl
def own_grow1_Q (Z : State) (a1 : Addr) (u1 : Int32) (db : Addr) (dc : Cell) (h0 : Heap) (n0 : Nat) (v : Option Value) (h : Heap) (L : List Loc) : Prop := ∃ br : Addr, ∃ kr : ClassId, (v = some (.ref br) ∧ Fr n0 L ∧ Keep h0 h [a1] ∧ (Fld Z h a1 "java/util/AbstractList" "modCount" "I" (.int u1)) ∧ (Fld Z h a1 "java/util/ArrayList" "elementData" "[Ljava/lang/Object;" (.ref br)) ∧ (Fld Z h a1 "java/util/ArrayList" "size" "I" (.int (0 : Int32))) ∧ (h0.size ≤ br) ∧ (Arv Z h br kr (.object "java/lang/Object") (10 : Int32) [.null, .null, .null, .null, .null, .null, .null, .null, .null, .null] .null) ∧ (Ovr Z kr "java/lang/Object"))
set_option maxRecDepth 65536 in
set_option maxHeartbeats 40000000 in
theorem own_grow1 (l : Launch) (Z : State) (a0 : Array Value) (hw : ∀ d ∈ tables_1, d.before a0 Z = true) (ws : List Jvm.Cond) (a1 : Addr) (u1 : Int32) (db : Addr) (dc : Cell) (h0 : Heap) (n0 : Nat) (Z0 : n0 ≤ h0.size) (hE_a1 : Exa Z h0 a1 "java/util/ArrayList") (hF_modCount_a1 : Fld Z h0 a1 "java/util/AbstractList" "modCount" "I" (.int u1)) (hF_elementData_a1 : Fld Z h0 a1 "java/util/ArrayList" "elementData" "[Ljava/lang/Object;" (.ref db)) (hF_size_a1 : Fld Z h0 a1 "java/util/ArrayList" "size" "I" (.int (0 : Int32))) (ge_a1 : n0 ≤ a1) (hDef : own_Def Z db dc) (hOld : Old Z n0 h0) :
    MetFree l (⟨"java/util/ArrayList", "grow", "(I)[Ljava/lang/Object;"⟩ : MethodName) (head1 (Jvm.Cond.code (⟨"java/util/ArrayList", "grow", "(I)[Ljava/lang/Object;"⟩ : MethodName) jdk_38_method_6_code 4 (some (.array (.object "java/lang/Object"))) :: ws) ({ frames := 1, cells := 1, slots := 10, locals := 14 } : Room)) (fun a U => a = #[(.ref a1), (.int (1 : Int32))] ∧ Z.Warmed39 U.vm ∧ U.heap = h0) (fun _ _ _ _ _ => True) (fun _ U o U' => ∃ v L, o = .returned v ∧ own_grow1_Q Z a1 u1 db dc h0 n0 v U'.heap L ∧ FrameEnd U o U' L ({ frames := 1, cells := 1, slots := 10, locals := 14 } : Room).cells ({ frames := 1, cells := 1, slots := 10, locals := 14 } : Room).slots) := by
  refine MetFree.of_bodySF (plainFor_of_name own_pn2) hisR ?_
  intro p e s m args below meth c s₁ Bd hml0 hP hK
  obtain ⟨rfl, hZ, hh⟩ := hP
  have hx := Bd.exec
  have hby := Bd.bytes
  have hlk : meth.locks = false := BodyLoose.notSynchronized Bd
  have hml : c.maxLocals = 4 := hml0
  have hown : s.vm.findClass "java/util/ArrayList" = some m.cls := findClass_of_methodNamed Bd.named
  have hnm := (name_of_methodNamed Bd.named Bd.method).1
  have X0 : Stand p l e ({ frames := 1, cells := 1, slots := 10, locals := 14 } : Room) s m #[(.ref a1), (.int (1 : Int32))] below meth c s₁ [] 0 0 := Stand.of_body Bd
  have e0 : s₁.heap = h0 := by rw [← hh, Bd.state]; rfl
  have N0 := Fr.nil n0
  refine own_start (QQ := own_grow1_Q Z a1 u1 db dc h0 n0) (rc := ({ frames := 1, cells := 1, slots := 10, locals := 14 } : Room).cells) (rs := ({ frames := 1, cells := 1, slots := 10, locals := 14 } : Room).slots) (own_grow1_ef m a1 (1 : Int32) ) ?_
  show own_G p.tables e below _ (s₁.setTop (mkF m 0 #[.val (.ref a1), .val (.int (1 : Int32)), .unset, .unset] []))
  refine own_fs (XS.aloadN X0.here hx rfl (hb hby own_d14_0) rfl rfl (Steps.refl _)) ?_
  show own_G p.tables e below _ (s₁.setTop (mkF m 1 #[.val (.ref a1), .val (.int (1 : Int32)), .unset, .unset] [(.ref a1)]))
  obtain ⟨T1, X1, e1, st1⟩ := getF X0 hx hZ hown (host := "") (Or.inl (hw _ (List.mem_of_getElem? (i := 57) rfl))) Via.refl e0 hF_elementData_a1 (g := (mkF m 1 #[.val (.ref a1), .val (.int (1 : Int32)), .unset, .unset] [(.ref a1)])) rfl rfl (hb hby own_d14_1)
  refine own_fs (st1 _ (Steps.refl _)) ?_
  show own_G p.tables e below _ (T1.setTop (mkF m 4 #[.val (.ref a1), .val (.int (1 : Int32)), .unset, .unset] [(.ref db)]))
  obtain ⟨cl2, Ar2, -, S2, O2, -, -⟩ := (own_defV hDef hOld)
  have sl2 := X1.arraylength hx (by rw [e1]; exact Ar2.1) (State.isArrayOf_alike hZ.alike Ar2.2.1) (g := (mkF m 4 #[.val (.ref a1), .val (.int (1 : Int32)), .unset, .unset] [(.ref db)])) rfl rfl (hb hby own_d14_4) _ (Steps.refl _)
  rw [len_of S2 O2] at sl2
  refine own_fs sl2 ?_
  show own_G p.tables e below _ (T1.setTop (mkF m 5 #[.val (.ref a1), .val (.int (1 : Int32)), .unset, .unset] [(.int (0 : Int32))]))
  refine own_fs (XS.istoreN X1.here hx rfl (hb hby own_d14_5) rfl (l' := #[.val (.ref a1), .val (.int (1 : Int32)), .val (.int (0 : Int32)), .unset]) rfl (Steps.refl _)) ?_
  show own_G p.tables e below _ (T1.setTop (mkF m 6 #[.val (.ref a1), .val (.int (1 : Int32)), .val (.int (0 : Int32)), .unset] []))
  refine own_fs (XS.iloadN X1.here hx rfl (hb hby own_d14_6) rfl (Steps.refl _)) ?_
  show own_G p.tables e below _ (T1.setTop (mkF m 7 #[.val (.ref a1), .val (.int (1 : Int32)), .val (.int (0 : Int32)), .unset] [(.int (0 : Int32))]))
  refine own_fs (XS.ifNo X1.here hx rfl (hb hby own_d14_7) rfl (XT.i0_gt_f (by decide : ¬ ((0 : Int32) < (0 : Int32)))) (Steps.refl _)) ?_
  show own_G p.tables e below _ (T1.setTop (mkF m 10 #[.val (.ref a1), .val (.int (1 : Int32)), .val (.int (0 : Int32)), .unset] []))
  refine own_fs (XS.aloadN X1.here hx rfl (hb hby own_d14_10) rfl rfl (Steps.refl _)) ?_
  show own_G p.tables e below _ (T1.setTop (mkF m 11 #[.val (.ref a1), .val (.int (1 : Int32)), .val (.int (0 : Int32)), .unset] [(.ref a1)]))
  obtain ⟨T3, X3, e3, st3⟩ := getF X1 hx hZ hown (host := "") (Or.inl (hw _ (List.mem_of_getElem? (i := 57) rfl))) Via.refl e1 hF_elementData_a1 (g := (mkF m 11 #[.val (.ref a1), .val (.int (1 : Int32)), .val (.int (0 : Int32)), .unset] [(.ref a1)])) rfl rfl (hb hby own_d14_11)
  refine own_fs (st3 _ (Steps.refl _)) ?_
  show own_G p.tables e below _ (T3.setTop (mkF m 14 #[.val (.ref a1), .val (.int (1 : Int32)), .val (.int (0 : Int32)), .unset] [(.ref db)]))
  obtain ⟨T4, X4, e4, st4⟩ := getS2 X3 hx hZ hown (host := "") (Or.inl (hw _ (List.mem_of_getElem? (i := 56) rfl))) Via.refl e3 (Sta.ext hOld.2 hDef.1) (g := (mkF m 14 #[.val (.ref a1), .val (.int (1 : Int32)), .val (.int (0 : Int32)), .unset] [(.ref db)])) rfl (hb hby own_d14_14)
  refine own_fs (st4 _ (Steps.refl _)) ?_
  show own_G p.tables e below _ (T4.setTop (mkF m 17 #[.val (.ref a1), .val (.int (1 : Int32)), .val (.int (0 : Int32)), .unset] [(.ref db), (.ref db)]))
  refine own_fs (Jvm.RoadKit.acmp (g := (mkF m 17 #[.val (.ref a1), .val (.int (1 : Int32)), .val (.int (0 : Int32)), .unset] [(.ref db), (.ref db)])) X4 hx rfl rfl rfl (pc0 := 17) (pc' := 45) (same := true) rfl (hb hby own_d14_17) rfl (decide_eq_true (congrArg Value.ref rfl)) (by decide) (by decide) (Steps.refl _)) ?_
  show own_G p.tables e below _ (T4.setTop (mkF m 45 #[.val (.ref a1), .val (.int (1 : Int32)), .val (.int (0 : Int32)), .unset] []))
  refine own_fs (XS.aloadN X4.here hx rfl (hb hby own_d14_45) rfl rfl (Steps.refl _)) ?_
  show own_G p.tables e below _ (T4.setTop (mkF m 46 #[.val (.ref a1), .val (.int (1 : Int32)), .val (.int (0 : Int32)), .unset] [(.ref a1)]))
  refine own_fs (XS.bipush X4.here hx rfl (hb hby own_d14_46) (Steps.refl _)) ?_
  show own_G p.tables e below _ (T4.setTop (mkF m 48 #[.val (.ref a1), .val (.int (1 : Int32)), .val (.int (0 : Int32)), .unset] [(.int (10 : Int32)), (.ref a1)]))
  refine own_fs (XS.iloadN X4.here hx rfl (hb hby own_d14_48) rfl (Steps.refl _)) ?_
  show own_G p.tables e below _ (T4.setTop (mkF m 49 #[.val (.ref a1), .val (.int (1 : Int32)), .val (.int (0 : Int32)), .unset] [(.int (1 : Int32)), (.int (10 : Int32)), (.ref a1)]))
  have Zs7 : n0 ≤ h0.size := Z0
  obtain ⟨_, _, ⟨T6, L6, k6, n6⟩, -, X6, ⟨Lc6, hQ6, l6, y6, z6⟩, st6⟩ := Jvm.LawKit.callS X4 hx (y := (⟨"java/lang/Math", "max", "(II)I"⟩ : MethodName)) hown (mvT hZ (hw _ (List.mem_of_getElem? (i := 83) rfl))) (mvT hZ (hw _ (List.mem_of_getElem? (i := 84) rfl))) (mvT hZ (hw _ (List.mem_of_getElem? (i := 85) rfl))) (mvT hZ (hw _ (List.mem_of_getElem? (i := 86) rfl))) (by decide) (backOf (W := 1) (own_max l Z a0 hw [] (10 : Int32) (1 : Int32) h0 n0 Zs7 ) hZ (hw _ (List.mem_of_getElem? (i := 86) rfl)) (hw _ (List.mem_of_getElem? (i := 85) rfl)) (by decide) (by decide)) (g := (mkF m 49 #[.val (.ref a1), .val (.int (1 : Int32)), .val (.int (0 : Int32)), .unset] [(.int (1 : Int32)), (.int (10 : Int32)), (.ref a1)])) rfl (by rw [hml]; rfl) (argsL := [(.int (10 : Int32)), (.int (1 : Int32))]) (rest := [(.ref a1)]) (lenOf own_pd1 rfl) rfl (by show 2 * 0 + _ ≤ _; exact Nat.le_of_eq rfl) (hb hby own_d14_49) (fun _ _ => ⟨rfl, e4, (by decide : 0 + 0 ≤ _), (by decide : 0 + 0 ≤ _)⟩)
  dsimp only [Pt.U, Pt.locs, Pt.cells, Pt.slots] at X6 l6 y6 z6 st6 hQ6
  subst l6 y6 z6
  obtain ⟨rfl, Nq6, e6⟩ := hQ6
  have N6 := Fr.app N0 Nq6
  refine own_fs (st6 _ (Steps.refl _)) ?_
  show own_G p.tables e below _ (T6.setTop (mkF m 52 #[.val (.ref a1), .val (.int (1 : Int32)), .val (.int (0 : Int32)), .unset] [(.int (own_mx (10 : Int32) (1 : Int32))), (.ref a1)]))
  rw [show own_mx (10 : Int32) (1 : Int32) = (10 : Int32) from by decide]
  show own_G p.tables e below _ (T6.setTop (mkF m 52 #[.val (.ref a1), .val (.int (1 : Int32)), .val (.int (0 : Int32)), .unset] [(.int (10 : Int32)), (.ref a1)]))
  obtain ⟨T8, h8, k8, X8, e8, E8, A8, O8, st8⟩ := newR X6 hx hZ hown (hw _ (List.mem_of_getElem? (i := 87) rfl)) (hw _ (List.mem_of_getElem? (i := 88) rfl)) e6 (g := (mkF m 52 #[.val (.ref a1), .val (.int (1 : Int32)), .val (.int (0 : Int32)), .unset] [(.int (10 : Int32)), (.ref a1)])) rfl (hb hby own_d14_52) rfl (by decide) (cap := 10) (by decide) (by decide) (by decide) (by decide)
  obtain ⟨b8, g8⟩ : ∃ z, z = h0.size := ⟨_, rfl⟩
  rw [← g8] at A8 st8
  have ge_b8 : n0 ≤ b8 := Nat.le_trans Z0 (Nat.le_of_eq g8.symm)
  have gz_b8 : h0.size ≤ b8 := Nat.le_trans (Nat.le_refl _) (Nat.le_of_eq g8.symm)
  have V_b8 : Arv Z h8 b8 k8 (.object "java/lang/Object") (10 : Int32) [.null, .null, .null, .null, .null, .null, .null, .null, .null, .null] .null := (Arv.new A8 (by decide)).pad (pad_rep [] .null 10)
  refine own_fs (st8 _ (Steps.refl _)) ?_
  show own_G p.tables e below _ (T8.setTop (mkF m 55 #[.val (.ref a1), .val (.int (1 : Int32)), .val (.int (0 : Int32)), .unset] [(.ref b8), (.ref a1)]))
  refine own_fs (XS.dupX1 X8.here hx rfl (hb hby own_d14_55) rfl rfl rfl (Steps.refl _)) ?_
  show own_G p.tables e below _ (T8.setTop (mkF m 56 #[.val (.ref a1), .val (.int (1 : Int32)), .val (.int (0 : Int32)), .unset] [(.ref b8), (.ref a1), (.ref b8)]))
  obtain ⟨T9, h9, X9, e9, W9, st9⟩ := putF X8 hx hZ hown (host := "") (Or.inl (hw _ (List.mem_of_getElem? (i := 57) rfl))) Via.refl e8 (Fld.ext E8 hF_elementData_a1) (Exa.ext E8 hE_a1) (Or.inl (hw _ (List.mem_of_getElem? (i := 58) rfl))) (hw _ (List.mem_of_getElem? (i := 36) rfl)) (ty := (.array (.object "java/lang/Object"))) (by decide) rfl rfl (g := (mkF m 56 #[.val (.ref a1), .val (.int (1 : Int32)), .val (.int (0 : Int32)), .unset] [(.ref b8), (.ref a1), (.ref b8)])) rfl rfl (hb hby own_d14_56)
  refine own_fs (st9 _ (Steps.refl _)) ?_
  have Fw9 := Fld.same W9 (Fld.ext E8 hF_elementData_a1)
  have N9 := Fr.snoc X9 N6 ge_a1
  show own_G p.tables e below _ (T9.setTop (mkF m 59 #[.val (.ref a1), .val (.int (1 : Int32)), .val (.int (0 : Int32)), .unset] [(.ref b8)]))
  exact own_retA X9 hx (t := (.array (.object "java/lang/Object"))) Bd.returns hlk rfl rfl (hb hby own_d14_59) (by decide) (by decide) e9 ⟨b8, k8, rfl, N9, (((Keep.refl _ _).ext E8).wr W9 (Or.inl (List.mem_of_getElem? (i := 0) rfl))), (Fld.other W9 (Fld.ext E8 hF_modCount_a1) (Or.inr (slot_ne (Or.inl (hw _ (List.mem_of_getElem? (i := 55) rfl))) (Or.inl (hw _ (List.mem_of_getElem? (i := 58) rfl))) (by decide) (t := .int) (t' := (.array (.object "java/lang/Object"))) (by decide) (by decide)))), Fw9, (Fld.other W9 (Fld.ext E8 hF_size_a1) (Or.inr (slot_ne (Or.inl (hw _ (List.mem_of_getElem? (i := 67) rfl))) (Or.inl (hw _ (List.mem_of_getElem? (i := 58) rfl))) (by decide) (t := .int) (t' := (.array (.object "java/lang/Object"))) (by decide) (by decide)))), gz_b8, (V_b8.other W9 (Ne.symm (Nat.ne_of_lt (Nat.lt_of_lt_of_le (Exa.lt hE_a1) (Nat.le_of_eq g8.symm))))), O8⟩
theorem own_grow0_ef (m : MethodId) (x0 : Addr) : entryFrame m #[(.ref x0)] 1 = mkF m 0 #[.val (.ref x0)] [] := by first | (simp [entryFrame, mkF, argsToLocals, Value.category]; done) | rfl
def own_grow0_Q (Z : State) (a1 : Addr) (u1 : Int32) (db : Addr) (dc : Cell) (h0 : Heap) (n0 : Nat) (v : Option Value) (h : Heap) (L : List Loc) : Prop := ∃ br : Addr, ∃ kr : ClassId, (v = some (.ref br) ∧ Fr n0 L ∧ Keep h0 h [a1] ∧ (Fld Z h a1 "java/util/AbstractList" "modCount" "I" (.int u1)) ∧ (Fld Z h a1 "java/util/ArrayList" "elementData" "[Ljava/lang/Object;" (.ref br)) ∧ (Fld Z h a1 "java/util/ArrayList" "size" "I" (.int (0 : Int32))) ∧ (h0.size ≤ br) ∧ (Arv Z h br kr (.object "java/lang/Object") (10 : Int32) [.null, .null, .null, .null, .null, .null, .null, .null, .null, .null] .null) ∧ (Ovr Z kr "java/lang/Object"))
set_option maxRecDepth 65536 in
set_option maxHeartbeats 40000000 in
theorem own_grow0 (l : Launch) (Z : State) (a0 : Array Value) (hw : ∀ d ∈ tables_1, d.before a0 Z = true) (ws : List Jvm.Cond) (a1 : Addr) (u1 : Int32) (db : Addr) (dc : Cell) (h0 : Heap) (n0 : Nat) (Z0 : n0 ≤ h0.size) (hE_a1 : Exa Z h0 a1 "java/util/ArrayList") (hF_modCount_a1 : Fld Z h0 a1 "java/util/AbstractList" "modCount" "I" (.int u1)) (hF_elementData_a1 : Fld Z h0 a1 "java/util/ArrayList" "elementData" "[Ljava/lang/Object;" (.ref db)) (hF_size_a1 : Fld Z h0 a1 "java/util/ArrayList" "size" "I" (.int (0 : Int32))) (ge_a1 : n0 ≤ a1) (hDef : own_Def Z db dc) (hOld : Old Z n0 h0) :
    MetFree l (⟨"java/util/ArrayList", "grow", "()[Ljava/lang/Object;"⟩ : MethodName) (head1 (Jvm.Cond.code (⟨"java/util/ArrayList", "grow", "()[Ljava/lang/Object;"⟩ : MethodName) jdk_38_method_7_code 1 (some (.array (.object "java/lang/Object"))) :: ws) ({ frames := 2, cells := 1, slots := 10, locals := 29 } : Room)) (fun a U => a = #[(.ref a1)] ∧ Z.Warmed39 U.vm ∧ U.heap = h0) (fun _ _ _ _ _ => True) (fun _ U o U' => ∃ v L, o = .returned v ∧ own_grow0_Q Z a1 u1 db dc h0 n0 v U'.heap L ∧ FrameEnd U o U' L ({ frames := 2, cells := 1, slots := 10, locals := 29 } : Room).cells ({ frames := 2, cells := 1, slots := 10, locals := 29 } : Room).slots) := by
  refine MetFree.of_bodySF (plainFor_of_name own_pn2) hisR ?_
  intro p e s m args below meth c s₁ Bd hml0 hP hK
  obtain ⟨rfl, hZ, hh⟩ := hP
  have hx := Bd.exec
  have hby := Bd.bytes
  have hlk : meth.locks = false := BodyLoose.notSynchronized Bd
  have hml : c.maxLocals = 1 := hml0
  have hown : s.vm.findClass "java/util/ArrayList" = some m.cls := findClass_of_methodNamed Bd.named
  have hnm := (name_of_methodNamed Bd.named Bd.method).1
  have X0 : Stand p l e ({ frames := 2, cells := 1, slots := 10, locals := 29 } : Room) s m #[(.ref a1)] below meth c s₁ [] 0 0 := Stand.of_body Bd
  have e0 : s₁.heap = h0 := by rw [← hh, Bd.state]; rfl
  have N0 := Fr.nil n0
  refine own_start (QQ := own_grow0_Q Z a1 u1 db dc h0 n0) (rc := ({ frames := 2, cells := 1, slots := 10, locals := 29 } : Room).cells) (rs := ({ frames := 2, cells := 1, slots := 10, locals := 29 } : Room).slots) (own_grow0_ef m a1 ) ?_
  show own_G p.tables e below _ (s₁.setTop (mkF m 0 #[.val (.ref a1)] []))
  refine own_fs (XS.aloadN X0.here hx rfl (hb hby own_d13_0) rfl rfl (Steps.refl _)) ?_
  show own_G p.tables e below _ (s₁.setTop (mkF m 1 #[.val (.ref a1)] [(.ref a1)]))
  refine own_fs (XS.aloadN X0.here hx rfl (hb hby own_d13_1) rfl rfl (Steps.refl _)) ?_
  show own_G p.tables e below _ (s₁.setTop (mkF m 2 #[.val (.ref a1)] [(.ref a1), (.ref a1)]))
  obtain ⟨T1, X1, e1, st1⟩ := getF X0 hx hZ hown (host := "") (Or.inl (hw _ (List.mem_of_getElem? (i := 66) rfl))) Via.refl e0 hF_size_a1 (g := (mkF m 2 #[.val (.ref a1)] [(.ref a1), (.ref a1)])) rfl rfl (hb hby own_d13_2)
  refine own_fs (st1 _ (Steps.refl _)) ?_
  show own_G p.tables e below _ (T1.setTop (mkF m 5 #[.val (.ref a1)] [(.int (0 : Int32)), (.ref a1)]))
  refine own_fs (XS.iconst X1.here hx rfl (hb hby own_d13_5) (Steps.refl _)) ?_
  show own_G p.tables e below _ (T1.setTop (mkF m 6 #[.val (.ref a1)] [(.int (1 : Int32)), (.int (0 : Int32)), (.ref a1)]))
  refine own_fs (XS.iadd X1.here hx rfl (hb hby own_d13_6) rfl (Steps.refl _)) ?_
  show own_G p.tables e below _ (T1.setTop (mkF m 7 #[.val (.ref a1)] [(.int (1 : Int32)), (.ref a1)]))
  have Zs5 : n0 ≤ h0.size := Z0
  obtain ⟨cq4, q4, q4'⟩ := Exa.cell hE_a1
  obtain ⟨_, _, ⟨T4, L4, k4, n4⟩, -, X4, ⟨Lc4, hQ4, l4, y4, z4⟩, st4⟩ := X1.privateBack hx (y := (⟨"java/util/ArrayList", "grow", "(I)[Ljava/lang/Object;"⟩ : MethodName)) hown (mvT hZ (hw _ (List.mem_of_getElem? (i := 78) rfl))) (mvT hZ (hw _ (List.mem_of_getElem? (i := 79) rfl))) (mvT hZ (hw _ (List.mem_of_getElem? (i := 81) rfl))) (Cond.privateMethod_at (mvP hZ (hw _ (List.mem_of_getElem? (i := 80) rfl)) (args := #[]))) (mvT hZ (hw _ (List.mem_of_getElem? (i := 82) rfl))) (by decide) (backOf (W := 0) (own_grow1 l Z a0 hw [] a1 u1 db dc h0 n0 Zs5 hE_a1 hF_modCount_a1 hF_elementData_a1 hF_size_a1 ge_a1 hDef hOld) hZ (hw _ (List.mem_of_getElem? (i := 82) rfl)) (hw _ (List.mem_of_getElem? (i := 37) rfl)) (by decide) (by decide)) (g := (mkF m 7 #[.val (.ref a1)] [(.int (1 : Int32)), (.ref a1)])) rfl (by rw [hml]; rfl) (Steps.refl _) (a := a1) (by rw [e1]; exact q4) q4' (argsL := [(.int (1 : Int32))]) (rest := []) (lenOf own_pd2 rfl) rfl (by show 2 * 0 + _ ≤ _; exact Nat.le_of_eq rfl) (hb hby own_d13_7) (fun _ _ => ⟨rfl, e1, (by decide : 0 + 1 ≤ _), (by decide : 0 + 10 ≤ _)⟩)
  dsimp only [Pt.U, Pt.locs, Pt.cells, Pt.slots] at X4 l4 y4 z4 st4 hQ4
  subst l4 y4 z4
  obtain ⟨h4, e4⟩ : ∃ h, T4.heap = h := ⟨_, rfl⟩
  rw [e4] at hQ4
  obtain ⟨br2, kr2, rfl, Nq4, K4, P3_0, P3_1, P3_2, P3_3, P3_4, P3_5⟩ := hQ4
  have N4 := Fr.app N0 Nq4
  have ge_br2 : n0 ≤ br2 := Nat.le_trans Z0 P3_3
  have gz_br2 : h0.size ≤ br2 := Nat.le_trans (Nat.le_refl _) P3_3
  refine own_fs st4 ?_
  show own_G p.tables e below _ (T4.setTop (mkF m 10 #[.val (.ref a1)] [(.ref br2)]))
  exact own_retA X4 hx (t := (.array (.object "java/lang/Object"))) Bd.returns hlk rfl rfl (hb hby own_d13_10) (by decide) (by decide) e4 ⟨br2, kr2, rfl, N4, ((Keep.refl _ _).trans K4 (allS (Or.inl (List.mem_of_getElem? (i := 0) rfl)) all0)), P3_0, P3_1, P3_2, gz_br2, P3_4, P3_5⟩
theorem own_addh0_ef (m : MethodId) (x0 : Addr) (x1 : Addr) (x2 : Addr) (x3 : Int32) : entryFrame m #[(.ref x0), (.ref x1), (.ref x2), (.int x3)] 4 = mkF m 0 #[.val (.ref x0), .val (.ref x1), .val (.ref x2), .val (.int x3)] [] := by first | (simp [entryFrame, mkF, argsToLocals, Value.category]; done) | rfl
def own_addh0_Q (Z : State) (a1 : Addr) (el0 : Addr) (u1 : Int32) (db : Addr) (dc : Cell) (h0 : Heap) (n0 : Nat) (v : Option Value) (h : Heap) (L : List Loc) : Prop := ∃ br : Addr, ∃ kr : ClassId, (v = none ∧ Fr n0 L ∧ Keep h0 h [a1] ∧ (Fld Z h a1 "java/util/AbstractList" "modCount" "I" (.int u1)) ∧ (Fld Z h a1 "java/util/ArrayList" "elementData" "[Ljava/lang/Object;" (.ref br)) ∧ (Fld Z h a1 "java/util/ArrayList" "size" "I" (.int (1 : Int32))) ∧ (h0.size ≤ br) ∧ (Arv Z h br kr (.object "java/lang/Object") (10 : Int32) [(.ref el0), .null, .null, .null, .null, .null, .null, .null, .null, .null] .null) ∧ (Ovr Z kr "java/lang/Object"))
set_option maxRecDepth 65536 in
set_option maxHeartbeats 40000000 in
theorem own_addh0 (l : Launch) (Z : State) (a0 : Array Value) (hw : ∀ d ∈ tables_1, d.before a0 Z = true) (ws : List Jvm.Cond) (a1 : Addr) (el0 : Addr) (u1 : Int32) (db : Addr) (dc : Cell) (h0 : Heap) (n0 : Nat) (Z0 : n0 ≤ h0.size) (hE_a1 : Exa Z h0 a1 "java/util/ArrayList") (hF_modCount_a1 : Fld Z h0 a1 "java/util/AbstractList" "modCount" "I" (.int u1)) (hF_elementData_a1 : Fld Z h0 a1 "java/util/ArrayList" "elementData" "[Ljava/lang/Object;" (.ref db)) (hF_size_a1 : Fld Z h0 a1 "java/util/ArrayList" "size" "I" (.int (0 : Int32))) (ge_a1 : n0 ≤ a1) (hDef : own_Def Z db dc) (hOld : Old Z n0 h0) (hE_el0 : Exa Z h0 el0 "java/lang/String") :
    MetFree l (⟨"java/util/ArrayList", "add", "(Ljava/lang/Object;[Ljava/lang/Object;I)V"⟩ : MethodName) (head1 (Jvm.Cond.code (⟨"java/util/ArrayList", "add", "(Ljava/lang/Object;[Ljava/lang/Object;I)V"⟩ : MethodName) jdk_38_method_24_code 4 none :: ws) ({ frames := 3, cells := 1, slots := 10, locals := 41 } : Room)) (fun a U => a = #[(.ref a1), (.ref el0), (.ref db), (.int (0 : Int32))] ∧ Z.Warmed39 U.vm ∧ U.heap = h0) (fun _ _ _ _ _ => True) (fun _ U o U' => ∃ v L, o = .returned v ∧ own_addh0_Q Z a1 el0 u1 db dc h0 n0 v U'.heap L ∧ FrameEnd U o U' L ({ frames := 3, cells := 1, slots := 10, locals := 41 } : Room).cells ({ frames := 3, cells := 1, slots := 10, locals := 41 } : Room).slots) := by
  refine MetFree.of_bodySF (plainFor_of_name own_pn2) hisR ?_
  intro p e s m args below meth c s₁ Bd hml0 hP hK
  obtain ⟨rfl, hZ, hh⟩ := hP
  have hx := Bd.exec
  have hby := Bd.bytes
  have hlk : meth.locks = false := BodyLoose.notSynchronized Bd
  have hml : c.maxLocals = 4 := hml0
  have hown : s.vm.findClass "java/util/ArrayList" = some m.cls := findClass_of_methodNamed Bd.named
  have hnm := (name_of_methodNamed Bd.named Bd.method).1
  have X0 : Stand p l e ({ frames := 3, cells := 1, slots := 10, locals := 41 } : Room) s m #[(.ref a1), (.ref el0), (.ref db), (.int (0 : Int32))] below meth c s₁ [] 0 0 := Stand.of_body Bd
  have e0 : s₁.heap = h0 := by rw [← hh, Bd.state]; rfl
  have N0 := Fr.nil n0
  refine own_start (QQ := own_addh0_Q Z a1 el0 u1 db dc h0 n0) (rc := ({ frames := 3, cells := 1, slots := 10, locals := 41 } : Room).cells) (rs := ({ frames := 3, cells := 1, slots := 10, locals := 41 } : Room).slots) (own_addh0_ef m a1 el0 db (0 : Int32) ) ?_
  show own_G p.tables e below _ (s₁.setTop (mkF m 0 #[.val (.ref a1), .val (.ref el0), .val (.ref db), .val (.int (0 : Int32))] []))
  refine own_fs (XS.iloadN X0.here hx rfl (hb hby own_d12_0) rfl (Steps.refl _)) ?_
  show own_G p.tables e below _ (s₁.setTop (mkF m 1 #[.val (.ref a1), .val (.ref el0), .val (.ref db), .val (.int (0 : Int32))] [(.int (0 : Int32))]))
  refine own_fs (XS.aloadN X0.here hx rfl (hb hby own_d12_1) rfl rfl (Steps.refl _)) ?_
  show own_G p.tables e below _ (s₁.setTop (mkF m 2 #[.val (.ref a1), .val (.ref el0), .val (.ref db), .val (.int (0 : Int32))] [(.ref db), (.int (0 : Int32))]))
  obtain ⟨cl1, Ar1, -, S1, O1, -, -⟩ := (own_defV hDef hOld)
  have sl1 := X0.arraylength hx (by rw [e0]; exact Ar1.1) (State.isArrayOf_alike hZ.alike Ar1.2.1) (g := (mkF m 2 #[.val (.ref a1), .val (.ref el0), .val (.ref db), .val (.int (0 : Int32))] [(.ref db), (.int (0 : Int32))])) rfl rfl (hb hby own_d12_2) _ (Steps.refl _)
  rw [len_of S1 O1] at sl1
  refine own_fs sl1 ?_
  show own_G p.tables e below _ (s₁.setTop (mkF m 3 #[.val (.ref a1), .val (.ref el0), .val (.ref db), .val (.int (0 : Int32))] [(.int (0 : Int32)), (.int (0 : Int32))]))
  refine own_fs (XS.icmpNo X0.here hx rfl (hb hby own_d12_3) rfl (XT.ii_ne_f (by decide : (0 : Int32) = (0 : Int32))) (Steps.refl _)) ?_
  show own_G p.tables e below _ (s₁.setTop (mkF m 6 #[.val (.ref a1), .val (.ref el0), .val (.ref db), .val (.int (0 : Int32))] []))
  refine own_fs (XS.aloadN X0.here hx rfl (hb hby own_d12_6) rfl rfl (Steps.refl _)) ?_
  show own_G p.tables e below _ (s₁.setTop (mkF m 7 #[.val (.ref a1), .val (.ref el0), .val (.ref db), .val (.int (0 : Int32))] [(.ref a1)]))
  have Zs5 : n0 ≤ h0.size := Z0
  obtain ⟨cq4, q4, q4'⟩ := Exa.cell hE_a1
  obtain ⟨_, _, ⟨T4, L4, k4, n4⟩, -, X4, ⟨Lc4, hQ4, l4, y4, z4⟩, st4⟩ := X0.privateBack hx (y := (⟨"java/util/ArrayList", "grow", "()[Ljava/lang/Object;"⟩ : MethodName)) hown (mvT hZ (hw _ (List.mem_of_getElem? (i := 73) rfl))) (mvT hZ (hw _ (List.mem_of_getElem? (i := 74) rfl))) (mvT hZ (hw _ (List.mem_of_getElem? (i := 76) rfl))) (Cond.privateMethod_at (mvP hZ (hw _ (List.mem_of_getElem? (i := 75) rfl)) (args := #[]))) (mvT hZ (hw _ (List.mem_of_getElem? (i := 77) rfl))) (by decide) (backOf (W := 0) (own_grow0 l Z a0 hw [] a1 u1 db dc h0 n0 Zs5 hE_a1 hF_modCount_a1 hF_elementData_a1 hF_size_a1 ge_a1 hDef hOld) hZ (hw _ (List.mem_of_getElem? (i := 77) rfl)) (hw _ (List.mem_of_getElem? (i := 37) rfl)) (by decide) (by decide)) (g := (mkF m 7 #[.val (.ref a1), .val (.ref el0), .val (.ref db), .val (.int (0 : Int32))] [(.ref a1)])) rfl (by rw [hml]; rfl) (Steps.refl _) (a := a1) (by rw [e0]; exact q4) q4' (argsL := []) (rest := []) (lenOf own_pd3 rfl) rfl (by show 2 * 0 + _ ≤ _; exact Nat.le_of_eq rfl) (hb hby own_d12_7) (fun _ _ => ⟨rfl, e0, (by decide : 0 + 1 ≤ _), (by decide : 0 + 10 ≤ _)⟩)
  dsimp only [Pt.U, Pt.locs, Pt.cells, Pt.slots] at X4 l4 y4 z4 st4 hQ4
  subst l4 y4 z4
  obtain ⟨h4, e4⟩ : ∃ h, T4.heap = h := ⟨_, rfl⟩
  rw [e4] at hQ4
  obtain ⟨br2, kr2, rfl, Nq4, K4, P3_0, P3_1, P3_2, P3_3, P3_4, P3_5⟩ := hQ4
  have N4 := Fr.app N0 Nq4
  have ge_br2 : n0 ≤ br2 := Nat.le_trans Z0 P3_3
  have gz_br2 : h0.size ≤ br2 := Nat.le_trans (Nat.le_refl _) P3_3
  refine own_fs st4 ?_
  show own_G p.tables e below _ (T4.setTop (mkF m 10 #[.val (.ref a1), .val (.ref el0), .val (.ref db), .val (.int (0 : Int32))] [(.ref br2)]))
  refine own_fs (XS.astoreN X4.here hx rfl (hb hby own_d12_10) rfl rfl (l' := #[.val (.ref a1), .val (.ref el0), .val (.ref br2), .val (.int (0 : Int32))]) rfl (Steps.refl _)) ?_
  show own_G p.tables e below _ (T4.setTop (mkF m 11 #[.val (.ref a1), .val (.ref el0), .val (.ref br2), .val (.int (0 : Int32))] []))
  refine own_fs (XS.aloadN X4.here hx rfl (hb hby own_d12_11) rfl rfl (Steps.refl _)) ?_
  show own_G p.tables e below _ (T4.setTop (mkF m 12 #[.val (.ref a1), .val (.ref el0), .val (.ref br2), .val (.int (0 : Int32))] [(.ref br2)]))
  refine own_fs (XS.iloadN X4.here hx rfl (hb hby own_d12_12) rfl (Steps.refl _)) ?_
  show own_G p.tables e below _ (T4.setTop (mkF m 13 #[.val (.ref a1), .val (.ref el0), .val (.ref br2), .val (.int (0 : Int32))] [(.int (0 : Int32)), (.ref br2)]))
  refine own_fs (XS.aloadN X4.here hx rfl (hb hby own_d12_13) rfl rfl (Steps.refl _)) ?_
  show own_G p.tables e below _ (T4.setTop (mkF m 14 #[.val (.ref a1), .val (.ref el0), .val (.ref br2), .val (.int (0 : Int32))] [(.ref el0), (.int (0 : Int32)), (.ref br2)]))
  obtain ⟨cl6, Ar6, q6, S6, O6, H6, G6⟩ := (id P3_4)
  obtain ⟨T7, h7, X7, e7, W7, st7⟩ := stR X4 hx hZ e4 Ar6 (j := (0 : Int32)) (inb_of S6 ⟨by decide, by decide⟩) rfl (Sto.ofV Ar6 q6 P3_5 (Ins.of_exa (hE_el0.keep K4) (hw _ (List.mem_of_getElem? (i := 89) rfl)))) (g := (mkF m 14 #[.val (.ref a1), .val (.ref el0), .val (.ref br2), .val (.int (0 : Int32))] [(.ref el0), (.int (0 : Int32)), (.ref br2)])) rfl rfl (hb hby own_d12_14)
  refine own_fs (st7 _ (Steps.refl _)) ?_
  have V7 : Arv Z h7 br2 kr2 (.object "java/lang/Object") (10 : Int32) [(.ref el0), .null, .null, .null, .null, .null, .null, .null, .null, .null] .null := Arv.set Ar6 q6 S6 O6 H6 G6 rfl W7 0 rfl (Nat.le_of_ble_eq_true rfl)
  have N7 := Fr.snoc X7 N4 ge_br2
  show own_G p.tables e below _ (T7.setTop (mkF m 15 #[.val (.ref a1), .val (.ref el0), .val (.ref br2), .val (.int (0 : Int32))] []))
  refine own_fs (XS.aloadN X7.here hx rfl (hb hby own_d12_15) rfl rfl (Steps.refl _)) ?_
  show own_G p.tables e below _ (T7.setTop (mkF m 16 #[.val (.ref a1), .val (.ref el0), .val (.ref br2), .val (.int (0 : Int32))] [(.ref a1)]))
  refine own_fs (XS.iloadN X7.here hx rfl (hb hby own_d12_16) rfl (Steps.refl _)) ?_
  show own_G p.tables e below _ (T7.setTop (mkF m 17 #[.val (.ref a1), .val (.ref el0), .val (.ref br2), .val (.int (0 : Int32))] [(.int (0 : Int32)), (.ref a1)]))
  refine own_fs (XS.iconst X7.here hx rfl (hb hby own_d12_17) (Steps.refl _)) ?_
  show own_G p.tables e below _ (T7.setTop (mkF m 18 #[.val (.ref a1), .val (.ref el0), .val (.ref br2), .val (.int (0 : Int32))] [(.int (1 : Int32)), (.int (0 : Int32)), (.ref a1)]))
  refine own_fs (XS.iadd X7.here hx rfl (hb hby own_d12_18) rfl (Steps.refl _)) ?_
  show own_G p.tables e below _ (T7.setTop (mkF m 19 #[.val (.ref a1), .val (.ref el0), .val (.ref br2), .val (.int (0 : Int32))] [(.int (1 : Int32)), (.ref a1)]))
  obtain ⟨T8, h8, X8, e8, W8, st8⟩ := putF X7 hx hZ hown (host := "") (Or.inl (hw _ (List.mem_of_getElem? (i := 66) rfl))) Via.refl e7 (Fld.other W7 P3_2 (Or.inl (Nat.ne_of_lt (Nat.lt_of_lt_of_le (Exa.lt hE_a1) P3_3)))) (Exa.wr W7 (hE_a1.keep K4)) (Or.inl (hw _ (List.mem_of_getElem? (i := 67) rfl))) (hw _ (List.mem_of_getElem? (i := 36) rfl)) (ty := .int) (by decide) rfl rfl (g := (mkF m 19 #[.val (.ref a1), .val (.ref el0), .val (.ref br2), .val (.int (0 : Int32))] [(.int (1 : Int32)), (.ref a1)])) rfl rfl (hb hby own_d12_19)
  refine own_fs (st8 _ (Steps.refl _)) ?_
  have Fw8 := Fld.same W8 (Fld.other W7 P3_2 (Or.inl (Nat.ne_of_lt (Nat.lt_of_lt_of_le (Exa.lt hE_a1) P3_3))))
  have N8 := Fr.snoc X8 N7 ge_a1
  show own_G p.tables e below _ (T8.setTop (mkF m 22 #[.val (.ref a1), .val (.ref el0), .val (.ref br2), .val (.int (0 : Int32))] []))
  exact own_retV X8 hx Bd.returns hlk (hb hby own_d12_22) (by decide) (by decide) e8 ⟨br2, kr2, rfl, N8, ((((Keep.refl _ _).trans K4 (allS (Or.inl (List.mem_of_getElem? (i := 0) rfl)) all0)).wr W7 (Or.inr gz_br2)).wr W8 (Or.inl (List.mem_of_getElem? (i := 0) rfl))), (Fld.other W8 (Fld.other W7 P3_0 (Or.inl (Nat.ne_of_lt (Nat.lt_of_lt_of_le (Exa.lt hE_a1) P3_3)))) (Or.inr (slot_ne (Or.inl (hw _ (List.mem_of_getElem? (i := 55) rfl))) (Or.inl (hw _ (List.mem_of_getElem? (i := 67) rfl))) (by decide) (t := .int) (t' := .int) (by decide) (by decide)))), (Fld.other W8 (Fld.other W7 P3_1 (Or.inl (Nat.ne_of_lt (Nat.lt_of_lt_of_le (Exa.lt hE_a1) P3_3)))) (Or.inr (slot_ne (Or.inl (hw _ (List.mem_of_getElem? (i := 58) rfl))) (Or.inl (hw _ (List.mem_of_getElem? (i := 67) rfl))) (by decide) (t := (.array (.object "java/lang/Object"))) (t' := .int) (by decide) (by decide)))), Fw8, gz_br2, (V7.other W8 (Ne.symm (Nat.ne_of_lt (Nat.lt_of_lt_of_le (Exa.lt hE_a1) P3_3)))), P3_5⟩
theorem own_add0_ef (m : MethodId) (x0 : Addr) (x1 : Addr) : entryFrame m #[(.ref x0), (.ref x1)] 2 = mkF m 0 #[.val (.ref x0), .val (.ref x1)] [] := by first | (simp [entryFrame, mkF, argsToLocals, Value.category]; done) | rfl
def own_add0_Q (Z : State) (a1 : Addr) (el0 : Addr) (u1 : Int32) (db : Addr) (dc : Cell) (h0 : Heap) (n0 : Nat) (v : Option Value) (h : Heap) (L : List Loc) : Prop := ∃ br : Addr, ∃ kr : ClassId, (v = some (.int (1 : Int32)) ∧ Fr n0 L ∧ Keep h0 h [a1] ∧ (Fld Z h a1 "java/util/AbstractList" "modCount" "I" (.int (u1 + (1 : Int32)))) ∧ (Fld Z h a1 "java/util/ArrayList" "elementData" "[Ljava/lang/Object;" (.ref br)) ∧ (Fld Z h a1 "java/util/ArrayList" "size" "I" (.int (1 : Int32))) ∧ (h0.size ≤ br) ∧ (Arv Z h br kr (.object "java/lang/Object") (10 : Int32) [(.ref el0), .null, .null, .null, .null, .null, .null, .null, .null, .null] .null) ∧ (Ovr Z kr "java/lang/Object"))
set_option maxRecDepth 65536 in
set_option maxHeartbeats 40000000 in
theorem own_add0 (l : Launch) (Z : State) (a0 : Array Value) (hw : ∀ d ∈ tables_1, d.before a0 Z = true) (ws : List Jvm.Cond) (a1 : Addr) (el0 : Addr) (u1 : Int32) (db : Addr) (dc : Cell) (h0 : Heap) (n0 : Nat) (Z0 : n0 ≤ h0.size) (hE_a1 : Exa Z h0 a1 "java/util/ArrayList") (hF_modCount_a1 : Fld Z h0 a1 "java/util/AbstractList" "modCount" "I" (.int u1)) (hF_elementData_a1 : Fld Z h0 a1 "java/util/ArrayList" "elementData" "[Ljava/lang/Object;" (.ref db)) (hF_size_a1 : Fld Z h0 a1 "java/util/ArrayList" "size" "I" (.int (0 : Int32))) (ge_a1 : n0 ≤ a1) (hDef : own_Def Z db dc) (hOld : Old Z n0 h0) (hE_el0 : Exa Z h0 el0 "java/lang/String") :
    MetFree l (⟨"java/util/ArrayList", "add", "(Ljava/lang/Object;)Z"⟩ : MethodName) (head1 (Jvm.Cond.code (⟨"java/util/ArrayList", "add", "(Ljava/lang/Object;)Z"⟩ : MethodName) jdk_38_method_25_code 2 (some .boolean) :: ws) ({ frames := 4, cells := 1, slots := 10, locals := 56 } : Room)) (fun a U => a = #[(.ref a1), (.ref el0)] ∧ Z.Warmed39 U.vm ∧ U.heap = h0) (fun _ _ _ _ _ => True) (fun _ U o U' => ∃ v L, o = .returned v ∧ own_add0_Q Z a1 el0 u1 db dc h0 n0 v U'.heap L ∧ FrameEnd U o U' L ({ frames := 4, cells := 1, slots := 10, locals := 56 } : Room).cells ({ frames := 4, cells := 1, slots := 10, locals := 56 } : Room).slots) := by
  refine MetFree.of_bodySF (plainFor_of_name own_pn2) hisR ?_
  intro p e s m args below meth c s₁ Bd hml0 hP hK
  obtain ⟨rfl, hZ, hh⟩ := hP
  have hx := Bd.exec
  have hby := Bd.bytes
  have hlk : meth.locks = false := BodyLoose.notSynchronized Bd
  have hml : c.maxLocals = 2 := hml0
  have hown : s.vm.findClass "java/util/ArrayList" = some m.cls := findClass_of_methodNamed Bd.named
  have hnm := (name_of_methodNamed Bd.named Bd.method).1
  have X0 : Stand p l e ({ frames := 4, cells := 1, slots := 10, locals := 56 } : Room) s m #[(.ref a1), (.ref el0)] below meth c s₁ [] 0 0 := Stand.of_body Bd
  have e0 : s₁.heap = h0 := by rw [← hh, Bd.state]; rfl
  have N0 := Fr.nil n0
  refine own_start (QQ := own_add0_Q Z a1 el0 u1 db dc h0 n0) (rc := ({ frames := 4, cells := 1, slots := 10, locals := 56 } : Room).cells) (rs := ({ frames := 4, cells := 1, slots := 10, locals := 56 } : Room).slots) (own_add0_ef m a1 el0 ) ?_
  show own_G p.tables e below _ (s₁.setTop (mkF m 0 #[.val (.ref a1), .val (.ref el0)] []))
  refine own_fs (XS.aloadN X0.here hx rfl (hb hby own_d11_0) rfl rfl (Steps.refl _)) ?_
  show own_G p.tables e below _ (s₁.setTop (mkF m 1 #[.val (.ref a1), .val (.ref el0)] [(.ref a1)]))
  refine own_fs (XS.dup X0.here hx rfl (hb hby own_d11_1) rfl rfl (Steps.refl _)) ?_
  show own_G p.tables e below _ (s₁.setTop (mkF m 2 #[.val (.ref a1), .val (.ref el0)] [(.ref a1), (.ref a1)]))
  obtain ⟨T1, X1, e1, st1⟩ := getF X0 hx hZ hown (host := "") (Or.inl (hw _ (List.mem_of_getElem? (i := 64) rfl))) (Via.of (hw _ (List.mem_of_getElem? (i := 65) rfl))) e0 hF_modCount_a1 (g := (mkF m 2 #[.val (.ref a1), .val (.ref el0)] [(.ref a1), (.ref a1)])) rfl rfl (hb hby own_d11_2)
  refine own_fs (st1 _ (Steps.refl _)) ?_
  show own_G p.tables e below _ (T1.setTop (mkF m 5 #[.val (.ref a1), .val (.ref el0)] [(.int u1), (.ref a1)]))
  refine own_fs (XS.iconst X1.here hx rfl (hb hby own_d11_5) (Steps.refl _)) ?_
  show own_G p.tables e below _ (T1.setTop (mkF m 6 #[.val (.ref a1), .val (.ref el0)] [(.int (1 : Int32)), (.int u1), (.ref a1)]))
  refine own_fs (XS.iadd X1.here hx rfl (hb hby own_d11_6) rfl (Steps.refl _)) ?_
  show own_G p.tables e below _ (T1.setTop (mkF m 7 #[.val (.ref a1), .val (.ref el0)] [(.int (u1 + (1 : Int32))), (.ref a1)]))
  obtain ⟨T2, h2, X2, e2, W2, st2⟩ := putF X1 hx hZ hown (host := "") (Or.inl (hw _ (List.mem_of_getElem? (i := 64) rfl))) (Via.of (hw _ (List.mem_of_getElem? (i := 65) rfl))) e1 hF_modCount_a1 hE_a1 (Or.inl (hw _ (List.mem_of_getElem? (i := 55) rfl))) (hw _ (List.mem_of_getElem? (i := 36) rfl)) (ty := .int) (by decide) rfl rfl (g := (mkF m 7 #[.val (.ref a1), .val (.ref el0)] [(.int (u1 + (1 : Int32))), (.ref a1)])) rfl rfl (hb hby own_d11_7)
  refine own_fs (st2 _ (Steps.refl _)) ?_
  have Fw2 := Fld.same W2 hF_modCount_a1
  have N2 := Fr.snoc X2 N0 ge_a1
  show own_G p.tables e below _ (T2.setTop (mkF m 10 #[.val (.ref a1), .val (.ref el0)] []))
  refine own_fs (XS.aloadN X2.here hx rfl (hb hby own_d11_10) rfl rfl (Steps.refl _)) ?_
  show own_G p.tables e below _ (T2.setTop (mkF m 11 #[.val (.ref a1), .val (.ref el0)] [(.ref a1)]))
  refine own_fs (XS.aloadN X2.here hx rfl (hb hby own_d11_11) rfl rfl (Steps.refl _)) ?_
  show own_G p.tables e below _ (T2.setTop (mkF m 12 #[.val (.ref a1), .val (.ref el0)] [(.ref el0), (.ref a1)]))
  refine own_fs (XS.aloadN X2.here hx rfl (hb hby own_d11_12) rfl rfl (Steps.refl _)) ?_
  show own_G p.tables e below _ (T2.setTop (mkF m 13 #[.val (.ref a1), .val (.ref el0)] [(.ref a1), (.ref el0), (.ref a1)]))
  obtain ⟨T3, X3, e3, st3⟩ := getF X2 hx hZ hown (host := "") (Or.inl (hw _ (List.mem_of_getElem? (i := 57) rfl))) Via.refl e2 (Fld.other W2 hF_elementData_a1 (Or.inr (slot_ne (Or.inl (hw _ (List.mem_of_getElem? (i := 58) rfl))) (Or.inl (hw _ (List.mem_of_getElem? (i := 55) rfl))) (by decide) (t := (.array (.object "java/lang/Object"))) (t' := .int) (by decide) (by decide)))) (g := (mkF m 13 #[.val (.ref a1), .val (.ref el0)] [(.ref a1), (.ref el0), (.ref a1)])) rfl rfl (hb hby own_d11_13)
  refine own_fs (st3 _ (Steps.refl _)) ?_
  show own_G p.tables e below _ (T3.setTop (mkF m 16 #[.val (.ref a1), .val (.ref el0)] [(.ref db), (.ref el0), (.ref a1)]))
  refine own_fs (XS.aloadN X3.here hx rfl (hb hby own_d11_16) rfl rfl (Steps.refl _)) ?_
  show own_G p.tables e below _ (T3.setTop (mkF m 17 #[.val (.ref a1), .val (.ref el0)] [(.ref a1), (.ref db), (.ref el0), (.ref a1)]))
  obtain ⟨T4, X4, e4, st4⟩ := getF X3 hx hZ hown (host := "") (Or.inl (hw _ (List.mem_of_getElem? (i := 66) rfl))) Via.refl e3 (Fld.other W2 hF_size_a1 (Or.inr (slot_ne (Or.inl (hw _ (List.mem_of_getElem? (i := 67) rfl))) (Or.inl (hw _ (List.mem_of_getElem? (i := 55) rfl))) (by decide) (t := .int) (t' := .int) (by decide) (by decide)))) (g := (mkF m 17 #[.val (.ref a1), .val (.ref el0)] [(.ref a1), (.ref db), (.ref el0), (.ref a1)])) rfl rfl (hb hby own_d11_17)
  refine own_fs (st4 _ (Steps.refl _)) ?_
  show own_G p.tables e below _ (T4.setTop (mkF m 20 #[.val (.ref a1), .val (.ref el0)] [(.int (0 : Int32)), (.ref db), (.ref el0), (.ref a1)]))
  have Zs8 : n0 ≤ h2.size := (Nat.le_trans Z0 (Keep.of_wr W2).1)
  obtain ⟨cq7, q7, q7'⟩ := Exa.cell (Exa.wr W2 hE_a1)
  obtain ⟨_, _, ⟨T7, L7, k7, n7⟩, -, X7, ⟨Lc7, hQ7, l7, y7, z7⟩, st7⟩ := X4.privateBack hx (y := (⟨"java/util/ArrayList", "add", "(Ljava/lang/Object;[Ljava/lang/Object;I)V"⟩ : MethodName)) hown (mvT hZ (hw _ (List.mem_of_getElem? (i := 68) rfl))) (mvT hZ (hw _ (List.mem_of_getElem? (i := 69) rfl))) (mvT hZ (hw _ (List.mem_of_getElem? (i := 71) rfl))) (Cond.privateMethod_at (mvP hZ (hw _ (List.mem_of_getElem? (i := 70) rfl)) (args := #[]))) (mvT hZ (hw _ (List.mem_of_getElem? (i := 72) rfl))) (by decide) (backOf (W := 0) (own_addh0 l Z a0 hw [] a1 el0 (u1 + (1 : Int32)) db dc h2 n0 Zs8 (Exa.wr W2 hE_a1) Fw2 (Fld.other W2 hF_elementData_a1 (Or.inr (slot_ne (Or.inl (hw _ (List.mem_of_getElem? (i := 58) rfl))) (Or.inl (hw _ (List.mem_of_getElem? (i := 55) rfl))) (by decide) (t := (.array (.object "java/lang/Object"))) (t' := .int) (by decide) (by decide)))) (Fld.other W2 hF_size_a1 (Or.inr (slot_ne (Or.inl (hw _ (List.mem_of_getElem? (i := 67) rfl))) (Or.inl (hw _ (List.mem_of_getElem? (i := 55) rfl))) (by decide) (t := .int) (t' := .int) (by decide) (by decide)))) ge_a1 hDef (Old.wr hOld W2 ge_a1) (Exa.wr W2 hE_el0)) hZ (hw _ (List.mem_of_getElem? (i := 72) rfl)) (hw _ (List.mem_of_getElem? (i := 37) rfl)) (by decide) (by decide)) (g := (mkF m 20 #[.val (.ref a1), .val (.ref el0)] [(.int (0 : Int32)), (.ref db), (.ref el0), (.ref a1)])) rfl (by rw [hml]; rfl) (Steps.refl _) (a := a1) (by rw [e4]; exact q7) q7' (argsL := [(.ref el0), (.ref db), (.int (0 : Int32))]) (rest := []) (lenOf own_pd4 rfl) rfl (by show 2 * 0 + _ ≤ _; exact Nat.le_of_eq rfl) (hb hby own_d11_20) (fun _ _ => ⟨rfl, e4, (by decide : 0 + 1 ≤ _), (by decide : 0 + 10 ≤ _)⟩)
  dsimp only [Pt.U, Pt.locs, Pt.cells, Pt.slots] at X7 l7 y7 z7 st7 hQ7
  subst l7 y7 z7
  obtain ⟨h7, e7⟩ : ∃ h, T7.heap = h := ⟨_, rfl⟩
  rw [e7] at hQ7
  obtain ⟨br5, kr5, rfl, Nq7, K7, P6_0, P6_1, P6_2, P6_3, P6_4, P6_5⟩ := hQ7
  have N7 := Fr.app N2 Nq7
  have ge_br5 : n0 ≤ br5 := Nat.le_trans (Nat.le_trans Z0 (Keep.of_wr W2).1) P6_3
  have gz_br5 : h0.size ≤ br5 := Nat.le_trans (Nat.le_trans (Nat.le_refl _) (Keep.of_wr W2).1) P6_3
  refine own_fs st7 ?_
  show own_G p.tables e below _ (T7.setTop (mkF m 23 #[.val (.ref a1), .val (.ref el0)] []))
  refine own_fs (XS.iconst X7.here hx rfl (hb hby own_d11_23) (Steps.refl _)) ?_
  show own_G p.tables e below _ (T7.setTop (mkF m 24 #[.val (.ref a1), .val (.ref el0)] [(.int (1 : Int32))]))
  exact own_retN X7 hx (t := .boolean) Bd.returns hlk (by simp) (hb hby own_d11_24) (by decide) (by decide) e7 ⟨br5, kr5, rfl, N7, (((Keep.refl _ _).wr W2 (Or.inl (List.mem_of_getElem? (i := 0) rfl))).trans K7 (allS (Or.inl (List.mem_of_getElem? (i := 0) rfl)) all0)), P6_0, P6_1, P6_2, gz_br5, P6_4, P6_5⟩
theorem own_addh1_ef (m : MethodId) (x0 : Addr) (x1 : Addr) (x2 : Addr) (x3 : Int32) : entryFrame m #[(.ref x0), (.ref x1), (.ref x2), (.int x3)] 4 = mkF m 0 #[.val (.ref x0), .val (.ref x1), .val (.ref x2), .val (.int x3)] [] := by first | (simp [entryFrame, mkF, argsToLocals, Value.category]; done) | rfl
def own_addh1_Q (Z : State) (a1 : Addr) (el0 : Addr) (el1 : Addr) (u1 : Int32) (d1 : Addr) (kd : ClassId) (h0 : Heap) (n0 : Nat) (v : Option Value) (h : Heap) (L : List Loc) : Prop := (v = none ∧ Fr n0 L ∧ Keep h0 h [a1, d1] ∧ (Fld Z h a1 "java/util/AbstractList" "modCount" "I" (.int u1)) ∧ (Fld Z h a1 "java/util/ArrayList" "elementData" "[Ljava/lang/Object;" (.ref d1)) ∧ (Fld Z h a1 "java/util/ArrayList" "size" "I" (.int (2 : Int32))) ∧ (Arv Z h d1 kd (.object "java/lang/Object") (10 : Int32) [(.ref el0), (.ref el1), .null, .null, .null, .null, .null, .null, .null, .null] .null))
set_option maxRecDepth 65536 in
set_option maxHeartbeats 40000000 in
theorem own_addh1 (l : Launch) (Z : State) (a0 : Array Value) (hw : ∀ d ∈ tables_1, d.before a0 Z = true) (ws : List Jvm.Cond) (a1 : Addr) (el0 : Addr) (el1 : Addr) (u1 : Int32) (d1 : Addr) (kd : ClassId) (h0 : Heap) (n0 : Nat) (Z0 : n0 ≤ h0.size) (hE_a1 : Exa Z h0 a1 "java/util/ArrayList") (hF_modCount_a1 : Fld Z h0 a1 "java/util/AbstractList" "modCount" "I" (.int u1)) (hF_elementData_a1 : Fld Z h0 a1 "java/util/ArrayList" "elementData" "[Ljava/lang/Object;" (.ref d1)) (hF_size_a1 : Fld Z h0 a1 "java/util/ArrayList" "size" "I" (.int (1 : Int32))) (ge_a1 : n0 ≤ a1) (hV_d1 : Arv Z h0 d1 kd (.object "java/lang/Object") (10 : Int32) [(.ref el0), .null, .null, .null, .null, .null, .null, .null, .null, .null] .null) (hOv_d1 : Ovr Z kd "java/lang/Object") (ge_d1 : n0 ≤ d1) (hne_a1_d1 : a1 ≠ d1) (hE_el1 : Exa Z h0 el1 "java/lang/String") :
    MetFree l (⟨"java/util/ArrayList", "add", "(Ljava/lang/Object;[Ljava/lang/Object;I)V"⟩ : MethodName) (head1 (Jvm.Cond.code (⟨"java/util/ArrayList", "add", "(Ljava/lang/Object;[Ljava/lang/Object;I)V"⟩ : MethodName) jdk_38_method_24_code 4 none :: ws) ({ frames := 0, cells := 0, slots := 0, locals := 0 } : Room)) (fun a U => a = #[(.ref a1), (.ref el1), (.ref d1), (.int (1 : Int32))] ∧ Z.Warmed39 U.vm ∧ U.heap = h0) (fun _ _ _ _ _ => True) (fun _ U o U' => ∃ v L, o = .returned v ∧ own_addh1_Q Z a1 el0 el1 u1 d1 kd h0 n0 v U'.heap L ∧ FrameEnd U o U' L ({ frames := 0, cells := 0, slots := 0, locals := 0 } : Room).cells ({ frames := 0, cells := 0, slots := 0, locals := 0 } : Room).slots) := by
  refine MetFree.of_bodySF (plainFor_of_name own_pn2) hisR ?_
  intro p e s m args below meth c s₁ Bd hml0 hP hK
  obtain ⟨rfl, hZ, hh⟩ := hP
  have hx := Bd.exec
  have hby := Bd.bytes
  have hlk : meth.locks = false := BodyLoose.notSynchronized Bd
  have hml : c.maxLocals = 4 := hml0
  have hown : s.vm.findClass "java/util/ArrayList" = some m.cls := findClass_of_methodNamed Bd.named
  have hnm := (name_of_methodNamed Bd.named Bd.method).1
  have X0 : Stand p l e ({ frames := 0, cells := 0, slots := 0, locals := 0 } : Room) s m #[(.ref a1), (.ref el1), (.ref d1), (.int (1 : Int32))] below meth c s₁ [] 0 0 := Stand.of_body Bd
  have e0 : s₁.heap = h0 := by rw [← hh, Bd.state]; rfl
  have N0 := Fr.nil n0
  refine own_start (QQ := own_addh1_Q Z a1 el0 el1 u1 d1 kd h0 n0) (rc := ({ frames := 0, cells := 0, slots := 0, locals := 0 } : Room).cells) (rs := ({ frames := 0, cells := 0, slots := 0, locals := 0 } : Room).slots) (own_addh1_ef m a1 el1 d1 (1 : Int32) ) ?_
  show own_G p.tables e below _ (s₁.setTop (mkF m 0 #[.val (.ref a1), .val (.ref el1), .val (.ref d1), .val (.int (1 : Int32))] []))
  refine own_fs (XS.iloadN X0.here hx rfl (hb hby own_d12_0) rfl (Steps.refl _)) ?_
  show own_G p.tables e below _ (s₁.setTop (mkF m 1 #[.val (.ref a1), .val (.ref el1), .val (.ref d1), .val (.int (1 : Int32))] [(.int (1 : Int32))]))
  refine own_fs (XS.aloadN X0.here hx rfl (hb hby own_d12_1) rfl rfl (Steps.refl _)) ?_
  show own_G p.tables e below _ (s₁.setTop (mkF m 2 #[.val (.ref a1), .val (.ref el1), .val (.ref d1), .val (.int (1 : Int32))] [(.ref d1), (.int (1 : Int32))]))
  obtain ⟨cl1, Ar1, -, S1, O1, -, -⟩ := (id hV_d1)
  have sl1 := X0.arraylength hx (by rw [e0]; exact Ar1.1) (State.isArrayOf_alike hZ.alike Ar1.2.1) (g := (mkF m 2 #[.val (.ref a1), .val (.ref el1), .val (.ref d1), .val (.int (1 : Int32))] [(.ref d1), (.int (1 : Int32))])) rfl rfl (hb hby own_d12_2) _ (Steps.refl _)
  rw [len_of S1 O1] at sl1
  refine own_fs sl1 ?_
  show own_G p.tables e below _ (s₁.setTop (mkF m 3 #[.val (.ref a1), .val (.ref el1), .val (.ref d1), .val (.int (1 : Int32))] [(.int (10 : Int32)), (.int (1 : Int32))]))
  refine own_fs (XS.icmpYes X0.here hx rfl (pc0 := 3) (pc' := 11) rfl (hb hby own_d12_3) rfl (XT.ii_ne_t (by decide : ¬ ((1 : Int32) = (10 : Int32)))) (by decide) (by decide) (Steps.refl _)) ?_
  show own_G p.tables e below _ (s₁.setTop (mkF m 11 #[.val (.ref a1), .val (.ref el1), .val (.ref d1), .val (.int (1 : Int32))] []))
  refine own_fs (XS.aloadN X0.here hx rfl (hb hby own_d12_11) rfl rfl (Steps.refl _)) ?_
  show own_G p.tables e below _ (s₁.setTop (mkF m 12 #[.val (.ref a1), .val (.ref el1), .val (.ref d1), .val (.int (1 : Int32))] [(.ref d1)]))
  refine own_fs (XS.iloadN X0.here hx rfl (hb hby own_d12_12) rfl (Steps.refl _)) ?_
  show own_G p.tables e below _ (s₁.setTop (mkF m 13 #[.val (.ref a1), .val (.ref el1), .val (.ref d1), .val (.int (1 : Int32))] [(.int (1 : Int32)), (.ref d1)]))
  refine own_fs (XS.aloadN X0.here hx rfl (hb hby own_d12_13) rfl rfl (Steps.refl _)) ?_
  show own_G p.tables e below _ (s₁.setTop (mkF m 14 #[.val (.ref a1), .val (.ref el1), .val (.ref d1), .val (.int (1 : Int32))] [(.ref el1), (.int (1 : Int32)), (.ref d1)]))
  obtain ⟨cl2, Ar2, q2, S2, O2, H2, G2⟩ := (id hV_d1)
  obtain ⟨T3, h3, X3, e3, W3, st3⟩ := stR X0 hx hZ e0 Ar2 (j := (1 : Int32)) (inb_of S2 ⟨by decide, by decide⟩) rfl (Sto.ofV Ar2 q2 hOv_d1 (Ins.of_exa hE_el1 (hw _ (List.mem_of_getElem? (i := 89) rfl)))) (g := (mkF m 14 #[.val (.ref a1), .val (.ref el1), .val (.ref d1), .val (.int (1 : Int32))] [(.ref el1), (.int (1 : Int32)), (.ref d1)])) rfl rfl (hb hby own_d12_14)
  refine own_fs (st3 _ (Steps.refl _)) ?_
  have V3 : Arv Z h3 d1 kd (.object "java/lang/Object") (10 : Int32) [(.ref el0), (.ref el1), .null, .null, .null, .null, .null, .null, .null, .null] .null := Arv.set Ar2 q2 S2 O2 H2 G2 rfl W3 1 rfl (Nat.le_of_ble_eq_true rfl)
  have N3 := Fr.snoc X3 N0 ge_d1
  show own_G p.tables e below _ (T3.setTop (mkF m 15 #[.val (.ref a1), .val (.ref el1), .val (.ref d1), .val (.int (1 : Int32))] []))
  refine own_fs (XS.aloadN X3.here hx rfl (hb hby own_d12_15) rfl rfl (Steps.refl _)) ?_
  show own_G p.tables e below _ (T3.setTop (mkF m 16 #[.val (.ref a1), .val (.ref el1), .val (.ref d1), .val (.int (1 : Int32))] [(.ref a1)]))
  refine own_fs (XS.iloadN X3.here hx rfl (hb hby own_d12_16) rfl (Steps.refl _)) ?_
  show own_G p.tables e below _ (T3.setTop (mkF m 17 #[.val (.ref a1), .val (.ref el1), .val (.ref d1), .val (.int (1 : Int32))] [(.int (1 : Int32)), (.ref a1)]))
  refine own_fs (XS.iconst X3.here hx rfl (hb hby own_d12_17) (Steps.refl _)) ?_
  show own_G p.tables e below _ (T3.setTop (mkF m 18 #[.val (.ref a1), .val (.ref el1), .val (.ref d1), .val (.int (1 : Int32))] [(.int (1 : Int32)), (.int (1 : Int32)), (.ref a1)]))
  refine own_fs (XS.iadd X3.here hx rfl (hb hby own_d12_18) rfl (Steps.refl _)) ?_
  show own_G p.tables e below _ (T3.setTop (mkF m 19 #[.val (.ref a1), .val (.ref el1), .val (.ref d1), .val (.int (1 : Int32))] [(.int (2 : Int32)), (.ref a1)]))
  obtain ⟨T4, h4, X4, e4, W4, st4⟩ := putF X3 hx hZ hown (host := "") (Or.inl (hw _ (List.mem_of_getElem? (i := 66) rfl))) Via.refl e3 (Fld.other W3 hF_size_a1 (Or.inl hne_a1_d1)) (Exa.wr W3 hE_a1) (Or.inl (hw _ (List.mem_of_getElem? (i := 67) rfl))) (hw _ (List.mem_of_getElem? (i := 36) rfl)) (ty := .int) (by decide) rfl rfl (g := (mkF m 19 #[.val (.ref a1), .val (.ref el1), .val (.ref d1), .val (.int (1 : Int32))] [(.int (2 : Int32)), (.ref a1)])) rfl rfl (hb hby own_d12_19)
  refine own_fs (st4 _ (Steps.refl _)) ?_
  have Fw4 := Fld.same W4 (Fld.other W3 hF_size_a1 (Or.inl hne_a1_d1))
  have N4 := Fr.snoc X4 N3 ge_a1
  show own_G p.tables e below _ (T4.setTop (mkF m 22 #[.val (.ref a1), .val (.ref el1), .val (.ref d1), .val (.int (1 : Int32))] []))
  exact own_retV X4 hx Bd.returns hlk (hb hby own_d12_22) (by decide) (by decide) e4 ⟨rfl, N4, (((Keep.refl _ _).wr W3 (Or.inl (List.mem_of_getElem? (i := 1) rfl))).wr W4 (Or.inl (List.mem_of_getElem? (i := 0) rfl))), (Fld.other W4 (Fld.other W3 hF_modCount_a1 (Or.inl hne_a1_d1)) (Or.inr (slot_ne (Or.inl (hw _ (List.mem_of_getElem? (i := 55) rfl))) (Or.inl (hw _ (List.mem_of_getElem? (i := 67) rfl))) (by decide) (t := .int) (t' := .int) (by decide) (by decide)))), (Fld.other W4 (Fld.other W3 hF_elementData_a1 (Or.inl hne_a1_d1)) (Or.inr (slot_ne (Or.inl (hw _ (List.mem_of_getElem? (i := 58) rfl))) (Or.inl (hw _ (List.mem_of_getElem? (i := 67) rfl))) (by decide) (t := (.array (.object "java/lang/Object"))) (t' := .int) (by decide) (by decide)))), Fw4, (V3.other W4 (Ne.symm hne_a1_d1))⟩
theorem own_add1_ef (m : MethodId) (x0 : Addr) (x1 : Addr) : entryFrame m #[(.ref x0), (.ref x1)] 2 = mkF m 0 #[.val (.ref x0), .val (.ref x1)] [] := by first | (simp [entryFrame, mkF, argsToLocals, Value.category]; done) | rfl
def own_add1_Q (Z : State) (a1 : Addr) (el0 : Addr) (el1 : Addr) (u1 : Int32) (d1 : Addr) (kd : ClassId) (h0 : Heap) (n0 : Nat) (v : Option Value) (h : Heap) (L : List Loc) : Prop := (v = some (.int (1 : Int32)) ∧ Fr n0 L ∧ Keep h0 h [a1, d1] ∧ (Fld Z h a1 "java/util/AbstractList" "modCount" "I" (.int (u1 + (1 : Int32)))) ∧ (Fld Z h a1 "java/util/ArrayList" "elementData" "[Ljava/lang/Object;" (.ref d1)) ∧ (Fld Z h a1 "java/util/ArrayList" "size" "I" (.int (2 : Int32))) ∧ (Arv Z h d1 kd (.object "java/lang/Object") (10 : Int32) [(.ref el0), (.ref el1), .null, .null, .null, .null, .null, .null, .null, .null] .null))
set_option maxRecDepth 65536 in
set_option maxHeartbeats 40000000 in
theorem own_add1 (l : Launch) (Z : State) (a0 : Array Value) (hw : ∀ d ∈ tables_1, d.before a0 Z = true) (ws : List Jvm.Cond) (a1 : Addr) (el0 : Addr) (el1 : Addr) (u1 : Int32) (d1 : Addr) (kd : ClassId) (h0 : Heap) (n0 : Nat) (Z0 : n0 ≤ h0.size) (hE_a1 : Exa Z h0 a1 "java/util/ArrayList") (hF_modCount_a1 : Fld Z h0 a1 "java/util/AbstractList" "modCount" "I" (.int u1)) (hF_elementData_a1 : Fld Z h0 a1 "java/util/ArrayList" "elementData" "[Ljava/lang/Object;" (.ref d1)) (hF_size_a1 : Fld Z h0 a1 "java/util/ArrayList" "size" "I" (.int (1 : Int32))) (ge_a1 : n0 ≤ a1) (hV_d1 : Arv Z h0 d1 kd (.object "java/lang/Object") (10 : Int32) [(.ref el0), .null, .null, .null, .null, .null, .null, .null, .null, .null] .null) (hOv_d1 : Ovr Z kd "java/lang/Object") (ge_d1 : n0 ≤ d1) (hne_a1_d1 : a1 ≠ d1) (hE_el1 : Exa Z h0 el1 "java/lang/String") :
    MetFree l (⟨"java/util/ArrayList", "add", "(Ljava/lang/Object;)Z"⟩ : MethodName) (head1 (Jvm.Cond.code (⟨"java/util/ArrayList", "add", "(Ljava/lang/Object;)Z"⟩ : MethodName) jdk_38_method_25_code 2 (some .boolean) :: ws) ({ frames := 1, cells := 0, slots := 0, locals := 15 } : Room)) (fun a U => a = #[(.ref a1), (.ref el1)] ∧ Z.Warmed39 U.vm ∧ U.heap = h0) (fun _ _ _ _ _ => True) (fun _ U o U' => ∃ v L, o = .returned v ∧ own_add1_Q Z a1 el0 el1 u1 d1 kd h0 n0 v U'.heap L ∧ FrameEnd U o U' L ({ frames := 1, cells := 0, slots := 0, locals := 15 } : Room).cells ({ frames := 1, cells := 0, slots := 0, locals := 15 } : Room).slots) := by
  refine MetFree.of_bodySF (plainFor_of_name own_pn2) hisR ?_
  intro p e s m args below meth c s₁ Bd hml0 hP hK
  obtain ⟨rfl, hZ, hh⟩ := hP
  have hx := Bd.exec
  have hby := Bd.bytes
  have hlk : meth.locks = false := BodyLoose.notSynchronized Bd
  have hml : c.maxLocals = 2 := hml0
  have hown : s.vm.findClass "java/util/ArrayList" = some m.cls := findClass_of_methodNamed Bd.named
  have hnm := (name_of_methodNamed Bd.named Bd.method).1
  have X0 : Stand p l e ({ frames := 1, cells := 0, slots := 0, locals := 15 } : Room) s m #[(.ref a1), (.ref el1)] below meth c s₁ [] 0 0 := Stand.of_body Bd
  have e0 : s₁.heap = h0 := by rw [← hh, Bd.state]; rfl
  have N0 := Fr.nil n0
  refine own_start (QQ := own_add1_Q Z a1 el0 el1 u1 d1 kd h0 n0) (rc := ({ frames := 1, cells := 0, slots := 0, locals := 15 } : Room).cells) (rs := ({ frames := 1, cells := 0, slots := 0, locals := 15 } : Room).slots) (own_add1_ef m a1 el1 ) ?_
  show own_G p.tables e below _ (s₁.setTop (mkF m 0 #[.val (.ref a1), .val (.ref el1)] []))
  refine own_fs (XS.aloadN X0.here hx rfl (hb hby own_d11_0) rfl rfl (Steps.refl _)) ?_
  show own_G p.tables e below _ (s₁.setTop (mkF m 1 #[.val (.ref a1), .val (.ref el1)] [(.ref a1)]))
  refine own_fs (XS.dup X0.here hx rfl (hb hby own_d11_1) rfl rfl (Steps.refl _)) ?_
  show own_G p.tables e below _ (s₁.setTop (mkF m 2 #[.val (.ref a1), .val (.ref el1)] [(.ref a1), (.ref a1)]))
  obtain ⟨T1, X1, e1, st1⟩ := getF X0 hx hZ hown (host := "") (Or.inl (hw _ (List.mem_of_getElem? (i := 64) rfl))) (Via.of (hw _ (List.mem_of_getElem? (i := 65) rfl))) e0 hF_modCount_a1 (g := (mkF m 2 #[.val (.ref a1), .val (.ref el1)] [(.ref a1), (.ref a1)])) rfl rfl (hb hby own_d11_2)
  refine own_fs (st1 _ (Steps.refl _)) ?_
  show own_G p.tables e below _ (T1.setTop (mkF m 5 #[.val (.ref a1), .val (.ref el1)] [(.int u1), (.ref a1)]))
  refine own_fs (XS.iconst X1.here hx rfl (hb hby own_d11_5) (Steps.refl _)) ?_
  show own_G p.tables e below _ (T1.setTop (mkF m 6 #[.val (.ref a1), .val (.ref el1)] [(.int (1 : Int32)), (.int u1), (.ref a1)]))
  refine own_fs (XS.iadd X1.here hx rfl (hb hby own_d11_6) rfl (Steps.refl _)) ?_
  show own_G p.tables e below _ (T1.setTop (mkF m 7 #[.val (.ref a1), .val (.ref el1)] [(.int (u1 + (1 : Int32))), (.ref a1)]))
  obtain ⟨T2, h2, X2, e2, W2, st2⟩ := putF X1 hx hZ hown (host := "") (Or.inl (hw _ (List.mem_of_getElem? (i := 64) rfl))) (Via.of (hw _ (List.mem_of_getElem? (i := 65) rfl))) e1 hF_modCount_a1 hE_a1 (Or.inl (hw _ (List.mem_of_getElem? (i := 55) rfl))) (hw _ (List.mem_of_getElem? (i := 36) rfl)) (ty := .int) (by decide) rfl rfl (g := (mkF m 7 #[.val (.ref a1), .val (.ref el1)] [(.int (u1 + (1 : Int32))), (.ref a1)])) rfl rfl (hb hby own_d11_7)
  refine own_fs (st2 _ (Steps.refl _)) ?_
  have Fw2 := Fld.same W2 hF_modCount_a1
  have N2 := Fr.snoc X2 N0 ge_a1
  show own_G p.tables e below _ (T2.setTop (mkF m 10 #[.val (.ref a1), .val (.ref el1)] []))
  refine own_fs (XS.aloadN X2.here hx rfl (hb hby own_d11_10) rfl rfl (Steps.refl _)) ?_
  show own_G p.tables e below _ (T2.setTop (mkF m 11 #[.val (.ref a1), .val (.ref el1)] [(.ref a1)]))
  refine own_fs (XS.aloadN X2.here hx rfl (hb hby own_d11_11) rfl rfl (Steps.refl _)) ?_
  show own_G p.tables e below _ (T2.setTop (mkF m 12 #[.val (.ref a1), .val (.ref el1)] [(.ref el1), (.ref a1)]))
  refine own_fs (XS.aloadN X2.here hx rfl (hb hby own_d11_12) rfl rfl (Steps.refl _)) ?_
  show own_G p.tables e below _ (T2.setTop (mkF m 13 #[.val (.ref a1), .val (.ref el1)] [(.ref a1), (.ref el1), (.ref a1)]))
  obtain ⟨T3, X3, e3, st3⟩ := getF X2 hx hZ hown (host := "") (Or.inl (hw _ (List.mem_of_getElem? (i := 57) rfl))) Via.refl e2 (Fld.other W2 hF_elementData_a1 (Or.inr (slot_ne (Or.inl (hw _ (List.mem_of_getElem? (i := 58) rfl))) (Or.inl (hw _ (List.mem_of_getElem? (i := 55) rfl))) (by decide) (t := (.array (.object "java/lang/Object"))) (t' := .int) (by decide) (by decide)))) (g := (mkF m 13 #[.val (.ref a1), .val (.ref el1)] [(.ref a1), (.ref el1), (.ref a1)])) rfl rfl (hb hby own_d11_13)
  refine own_fs (st3 _ (Steps.refl _)) ?_
  show own_G p.tables e below _ (T3.setTop (mkF m 16 #[.val (.ref a1), .val (.ref el1)] [(.ref d1), (.ref el1), (.ref a1)]))
  refine own_fs (XS.aloadN X3.here hx rfl (hb hby own_d11_16) rfl rfl (Steps.refl _)) ?_
  show own_G p.tables e below _ (T3.setTop (mkF m 17 #[.val (.ref a1), .val (.ref el1)] [(.ref a1), (.ref d1), (.ref el1), (.ref a1)]))
  obtain ⟨T4, X4, e4, st4⟩ := getF X3 hx hZ hown (host := "") (Or.inl (hw _ (List.mem_of_getElem? (i := 66) rfl))) Via.refl e3 (Fld.other W2 hF_size_a1 (Or.inr (slot_ne (Or.inl (hw _ (List.mem_of_getElem? (i := 67) rfl))) (Or.inl (hw _ (List.mem_of_getElem? (i := 55) rfl))) (by decide) (t := .int) (t' := .int) (by decide) (by decide)))) (g := (mkF m 17 #[.val (.ref a1), .val (.ref el1)] [(.ref a1), (.ref d1), (.ref el1), (.ref a1)])) rfl rfl (hb hby own_d11_17)
  refine own_fs (st4 _ (Steps.refl _)) ?_
  show own_G p.tables e below _ (T4.setTop (mkF m 20 #[.val (.ref a1), .val (.ref el1)] [(.int (1 : Int32)), (.ref d1), (.ref el1), (.ref a1)]))
  have Zs7 : n0 ≤ h2.size := (Nat.le_trans Z0 (Keep.of_wr W2).1)
  obtain ⟨cq6, q6, q6'⟩ := Exa.cell (Exa.wr W2 hE_a1)
  obtain ⟨_, _, ⟨T6, L6, k6, n6⟩, -, X6, ⟨Lc6, hQ6, l6, y6, z6⟩, st6⟩ := X4.privateBack hx (y := (⟨"java/util/ArrayList", "add", "(Ljava/lang/Object;[Ljava/lang/Object;I)V"⟩ : MethodName)) hown (mvT hZ (hw _ (List.mem_of_getElem? (i := 68) rfl))) (mvT hZ (hw _ (List.mem_of_getElem? (i := 69) rfl))) (mvT hZ (hw _ (List.mem_of_getElem? (i := 71) rfl))) (Cond.privateMethod_at (mvP hZ (hw _ (List.mem_of_getElem? (i := 70) rfl)) (args := #[]))) (mvT hZ (hw _ (List.mem_of_getElem? (i := 72) rfl))) (by decide) (backOf (W := 0) (own_addh1 l Z a0 hw [] a1 el0 el1 (u1 + (1 : Int32)) d1 kd h2 n0 Zs7 (Exa.wr W2 hE_a1) Fw2 (Fld.other W2 hF_elementData_a1 (Or.inr (slot_ne (Or.inl (hw _ (List.mem_of_getElem? (i := 58) rfl))) (Or.inl (hw _ (List.mem_of_getElem? (i := 55) rfl))) (by decide) (t := (.array (.object "java/lang/Object"))) (t' := .int) (by decide) (by decide)))) (Fld.other W2 hF_size_a1 (Or.inr (slot_ne (Or.inl (hw _ (List.mem_of_getElem? (i := 67) rfl))) (Or.inl (hw _ (List.mem_of_getElem? (i := 55) rfl))) (by decide) (t := .int) (t' := .int) (by decide) (by decide)))) ge_a1 (hV_d1.other W2 (Ne.symm hne_a1_d1)) hOv_d1 ge_d1 hne_a1_d1 (Exa.wr W2 hE_el1)) hZ (hw _ (List.mem_of_getElem? (i := 72) rfl)) (hw _ (List.mem_of_getElem? (i := 37) rfl)) (by decide) (by decide)) (g := (mkF m 20 #[.val (.ref a1), .val (.ref el1)] [(.int (1 : Int32)), (.ref d1), (.ref el1), (.ref a1)])) rfl (by rw [hml]; rfl) (Steps.refl _) (a := a1) (by rw [e4]; exact q6) q6' (argsL := [(.ref el1), (.ref d1), (.int (1 : Int32))]) (rest := []) (lenOf own_pd4 rfl) rfl (by show 2 * 0 + _ ≤ _; exact Nat.le_of_eq rfl) (hb hby own_d11_20) (fun _ _ => ⟨rfl, e4, (by decide : 0 + 0 ≤ _), (by decide : 0 + 0 ≤ _)⟩)
  dsimp only [Pt.U, Pt.locs, Pt.cells, Pt.slots] at X6 l6 y6 z6 st6 hQ6
  subst l6 y6 z6
  obtain ⟨h6, e6⟩ : ∃ h, T6.heap = h := ⟨_, rfl⟩
  rw [e6] at hQ6
  obtain ⟨rfl, Nq6, K6, P5_0, P5_1, P5_2, P5_3⟩ := hQ6
  have N6 := Fr.app N2 Nq6
  refine own_fs st6 ?_
  show own_G p.tables e below _ (T6.setTop (mkF m 23 #[.val (.ref a1), .val (.ref el1)] []))
  refine own_fs (XS.iconst X6.here hx rfl (hb hby own_d11_23) (Steps.refl _)) ?_
  show own_G p.tables e below _ (T6.setTop (mkF m 24 #[.val (.ref a1), .val (.ref el1)] [(.int (1 : Int32))]))
  exact own_retN X6 hx (t := .boolean) Bd.returns hlk (by simp) (hb hby own_d11_24) (by decide) (by decide) e6 ⟨rfl, N6, (((Keep.refl _ _).wr W2 (Or.inl (List.mem_of_getElem? (i := 0) rfl))).trans K6 (allS (Or.inl (List.mem_of_getElem? (i := 0) rfl)) (allS (Or.inl (List.mem_of_getElem? (i := 1) rfl)) all0))), P5_0, P5_1, P5_2, P5_3⟩
theorem own_addh2_ef (m : MethodId) (x0 : Addr) (x1 : Addr) (x2 : Addr) (x3 : Int32) : entryFrame m #[(.ref x0), (.ref x1), (.ref x2), (.int x3)] 4 = mkF m 0 #[.val (.ref x0), .val (.ref x1), .val (.ref x2), .val (.int x3)] [] := by first | (simp [entryFrame, mkF, argsToLocals, Value.category]; done) | rfl
def own_addh2_Q (Z : State) (a1 : Addr) (el0 : Addr) (el1 : Addr) (el2 : Addr) (u1 : Int32) (d1 : Addr) (kd : ClassId) (h0 : Heap) (n0 : Nat) (v : Option Value) (h : Heap) (L : List Loc) : Prop := (v = none ∧ Fr n0 L ∧ Keep h0 h [a1, d1] ∧ (Fld Z h a1 "java/util/AbstractList" "modCount" "I" (.int u1)) ∧ (Fld Z h a1 "java/util/ArrayList" "elementData" "[Ljava/lang/Object;" (.ref d1)) ∧ (Fld Z h a1 "java/util/ArrayList" "size" "I" (.int (3 : Int32))) ∧ (Arv Z h d1 kd (.object "java/lang/Object") (10 : Int32) [(.ref el0), (.ref el1), (.ref el2), .null, .null, .null, .null, .null, .null, .null] .null))
set_option maxRecDepth 65536 in
set_option maxHeartbeats 40000000 in
theorem own_addh2 (l : Launch) (Z : State) (a0 : Array Value) (hw : ∀ d ∈ tables_1, d.before a0 Z = true) (ws : List Jvm.Cond) (a1 : Addr) (el0 : Addr) (el1 : Addr) (el2 : Addr) (u1 : Int32) (d1 : Addr) (kd : ClassId) (h0 : Heap) (n0 : Nat) (Z0 : n0 ≤ h0.size) (hE_a1 : Exa Z h0 a1 "java/util/ArrayList") (hF_modCount_a1 : Fld Z h0 a1 "java/util/AbstractList" "modCount" "I" (.int u1)) (hF_elementData_a1 : Fld Z h0 a1 "java/util/ArrayList" "elementData" "[Ljava/lang/Object;" (.ref d1)) (hF_size_a1 : Fld Z h0 a1 "java/util/ArrayList" "size" "I" (.int (2 : Int32))) (ge_a1 : n0 ≤ a1) (hV_d1 : Arv Z h0 d1 kd (.object "java/lang/Object") (10 : Int32) [(.ref el0), (.ref el1), .null, .null, .null, .null, .null, .null, .null, .null] .null) (hOv_d1 : Ovr Z kd "java/lang/Object") (ge_d1 : n0 ≤ d1) (hne_a1_d1 : a1 ≠ d1) (hE_el2 : Exa Z h0 el2 "java/lang/String") :
    MetFree l (⟨"java/util/ArrayList", "add", "(Ljava/lang/Object;[Ljava/lang/Object;I)V"⟩ : MethodName) (head1 (Jvm.Cond.code (⟨"java/util/ArrayList", "add", "(Ljava/lang/Object;[Ljava/lang/Object;I)V"⟩ : MethodName) jdk_38_method_24_code 4 none :: ws) ({ frames := 0, cells := 0, slots := 0, locals := 0 } : Room)) (fun a U => a = #[(.ref a1), (.ref el2), (.ref d1), (.int (2 : Int32))] ∧ Z.Warmed39 U.vm ∧ U.heap = h0) (fun _ _ _ _ _ => True) (fun _ U o U' => ∃ v L, o = .returned v ∧ own_addh2_Q Z a1 el0 el1 el2 u1 d1 kd h0 n0 v U'.heap L ∧ FrameEnd U o U' L ({ frames := 0, cells := 0, slots := 0, locals := 0 } : Room).cells ({ frames := 0, cells := 0, slots := 0, locals := 0 } : Room).slots) := by
  refine MetFree.of_bodySF (plainFor_of_name own_pn2) hisR ?_
  intro p e s m args below meth c s₁ Bd hml0 hP hK
  obtain ⟨rfl, hZ, hh⟩ := hP
  have hx := Bd.exec
  have hby := Bd.bytes
  have hlk : meth.locks = false := BodyLoose.notSynchronized Bd
  have hml : c.maxLocals = 4 := hml0
  have hown : s.vm.findClass "java/util/ArrayList" = some m.cls := findClass_of_methodNamed Bd.named
  have hnm := (name_of_methodNamed Bd.named Bd.method).1
  have X0 : Stand p l e ({ frames := 0, cells := 0, slots := 0, locals := 0 } : Room) s m #[(.ref a1), (.ref el2), (.ref d1), (.int (2 : Int32))] below meth c s₁ [] 0 0 := Stand.of_body Bd
  have e0 : s₁.heap = h0 := by rw [← hh, Bd.state]; rfl
  have N0 := Fr.nil n0
  refine own_start (QQ := own_addh2_Q Z a1 el0 el1 el2 u1 d1 kd h0 n0) (rc := ({ frames := 0, cells := 0, slots := 0, locals := 0 } : Room).cells) (rs := ({ frames := 0, cells := 0, slots := 0, locals := 0 } : Room).slots) (own_addh2_ef m a1 el2 d1 (2 : Int32) ) ?_
  show own_G p.tables e below _ (s₁.setTop (mkF m 0 #[.val (.ref a1), .val (.ref el2), .val (.ref d1), .val (.int (2 : Int32))] []))
  refine own_fs (XS.iloadN X0.here hx rfl (hb hby own_d12_0) rfl (Steps.refl _)) ?_
  show own_G p.tables e below _ (s₁.setTop (mkF m 1 #[.val (.ref a1), .val (.ref el2), .val (.ref d1), .val (.int (2 : Int32))] [(.int (2 : Int32))]))
  refine own_fs (XS.aloadN X0.here hx rfl (hb hby own_d12_1) rfl rfl (Steps.refl _)) ?_
  show own_G p.tables e below _ (s₁.setTop (mkF m 2 #[.val (.ref a1), .val (.ref el2), .val (.ref d1), .val (.int (2 : Int32))] [(.ref d1), (.int (2 : Int32))]))
  obtain ⟨cl1, Ar1, -, S1, O1, -, -⟩ := (id hV_d1)
  have sl1 := X0.arraylength hx (by rw [e0]; exact Ar1.1) (State.isArrayOf_alike hZ.alike Ar1.2.1) (g := (mkF m 2 #[.val (.ref a1), .val (.ref el2), .val (.ref d1), .val (.int (2 : Int32))] [(.ref d1), (.int (2 : Int32))])) rfl rfl (hb hby own_d12_2) _ (Steps.refl _)
  rw [len_of S1 O1] at sl1
  refine own_fs sl1 ?_
  show own_G p.tables e below _ (s₁.setTop (mkF m 3 #[.val (.ref a1), .val (.ref el2), .val (.ref d1), .val (.int (2 : Int32))] [(.int (10 : Int32)), (.int (2 : Int32))]))
  refine own_fs (XS.icmpYes X0.here hx rfl (pc0 := 3) (pc' := 11) rfl (hb hby own_d12_3) rfl (XT.ii_ne_t (by decide : ¬ ((2 : Int32) = (10 : Int32)))) (by decide) (by decide) (Steps.refl _)) ?_
  show own_G p.tables e below _ (s₁.setTop (mkF m 11 #[.val (.ref a1), .val (.ref el2), .val (.ref d1), .val (.int (2 : Int32))] []))
  refine own_fs (XS.aloadN X0.here hx rfl (hb hby own_d12_11) rfl rfl (Steps.refl _)) ?_
  show own_G p.tables e below _ (s₁.setTop (mkF m 12 #[.val (.ref a1), .val (.ref el2), .val (.ref d1), .val (.int (2 : Int32))] [(.ref d1)]))
  refine own_fs (XS.iloadN X0.here hx rfl (hb hby own_d12_12) rfl (Steps.refl _)) ?_
  show own_G p.tables e below _ (s₁.setTop (mkF m 13 #[.val (.ref a1), .val (.ref el2), .val (.ref d1), .val (.int (2 : Int32))] [(.int (2 : Int32)), (.ref d1)]))
  refine own_fs (XS.aloadN X0.here hx rfl (hb hby own_d12_13) rfl rfl (Steps.refl _)) ?_
  show own_G p.tables e below _ (s₁.setTop (mkF m 14 #[.val (.ref a1), .val (.ref el2), .val (.ref d1), .val (.int (2 : Int32))] [(.ref el2), (.int (2 : Int32)), (.ref d1)]))
  obtain ⟨cl2, Ar2, q2, S2, O2, H2, G2⟩ := (id hV_d1)
  obtain ⟨T3, h3, X3, e3, W3, st3⟩ := stR X0 hx hZ e0 Ar2 (j := (2 : Int32)) (inb_of S2 ⟨by decide, by decide⟩) rfl (Sto.ofV Ar2 q2 hOv_d1 (Ins.of_exa hE_el2 (hw _ (List.mem_of_getElem? (i := 89) rfl)))) (g := (mkF m 14 #[.val (.ref a1), .val (.ref el2), .val (.ref d1), .val (.int (2 : Int32))] [(.ref el2), (.int (2 : Int32)), (.ref d1)])) rfl rfl (hb hby own_d12_14)
  refine own_fs (st3 _ (Steps.refl _)) ?_
  have V3 : Arv Z h3 d1 kd (.object "java/lang/Object") (10 : Int32) [(.ref el0), (.ref el1), (.ref el2), .null, .null, .null, .null, .null, .null, .null] .null := Arv.set Ar2 q2 S2 O2 H2 G2 rfl W3 2 rfl (Nat.le_of_ble_eq_true rfl)
  have N3 := Fr.snoc X3 N0 ge_d1
  show own_G p.tables e below _ (T3.setTop (mkF m 15 #[.val (.ref a1), .val (.ref el2), .val (.ref d1), .val (.int (2 : Int32))] []))
  refine own_fs (XS.aloadN X3.here hx rfl (hb hby own_d12_15) rfl rfl (Steps.refl _)) ?_
  show own_G p.tables e below _ (T3.setTop (mkF m 16 #[.val (.ref a1), .val (.ref el2), .val (.ref d1), .val (.int (2 : Int32))] [(.ref a1)]))
  refine own_fs (XS.iloadN X3.here hx rfl (hb hby own_d12_16) rfl (Steps.refl _)) ?_
  show own_G p.tables e below _ (T3.setTop (mkF m 17 #[.val (.ref a1), .val (.ref el2), .val (.ref d1), .val (.int (2 : Int32))] [(.int (2 : Int32)), (.ref a1)]))
  refine own_fs (XS.iconst X3.here hx rfl (hb hby own_d12_17) (Steps.refl _)) ?_
  show own_G p.tables e below _ (T3.setTop (mkF m 18 #[.val (.ref a1), .val (.ref el2), .val (.ref d1), .val (.int (2 : Int32))] [(.int (1 : Int32)), (.int (2 : Int32)), (.ref a1)]))
  refine own_fs (XS.iadd X3.here hx rfl (hb hby own_d12_18) rfl (Steps.refl _)) ?_
  show own_G p.tables e below _ (T3.setTop (mkF m 19 #[.val (.ref a1), .val (.ref el2), .val (.ref d1), .val (.int (2 : Int32))] [(.int (3 : Int32)), (.ref a1)]))
  obtain ⟨T4, h4, X4, e4, W4, st4⟩ := putF X3 hx hZ hown (host := "") (Or.inl (hw _ (List.mem_of_getElem? (i := 66) rfl))) Via.refl e3 (Fld.other W3 hF_size_a1 (Or.inl hne_a1_d1)) (Exa.wr W3 hE_a1) (Or.inl (hw _ (List.mem_of_getElem? (i := 67) rfl))) (hw _ (List.mem_of_getElem? (i := 36) rfl)) (ty := .int) (by decide) rfl rfl (g := (mkF m 19 #[.val (.ref a1), .val (.ref el2), .val (.ref d1), .val (.int (2 : Int32))] [(.int (3 : Int32)), (.ref a1)])) rfl rfl (hb hby own_d12_19)
  refine own_fs (st4 _ (Steps.refl _)) ?_
  have Fw4 := Fld.same W4 (Fld.other W3 hF_size_a1 (Or.inl hne_a1_d1))
  have N4 := Fr.snoc X4 N3 ge_a1
  show own_G p.tables e below _ (T4.setTop (mkF m 22 #[.val (.ref a1), .val (.ref el2), .val (.ref d1), .val (.int (2 : Int32))] []))
  exact own_retV X4 hx Bd.returns hlk (hb hby own_d12_22) (by decide) (by decide) e4 ⟨rfl, N4, (((Keep.refl _ _).wr W3 (Or.inl (List.mem_of_getElem? (i := 1) rfl))).wr W4 (Or.inl (List.mem_of_getElem? (i := 0) rfl))), (Fld.other W4 (Fld.other W3 hF_modCount_a1 (Or.inl hne_a1_d1)) (Or.inr (slot_ne (Or.inl (hw _ (List.mem_of_getElem? (i := 55) rfl))) (Or.inl (hw _ (List.mem_of_getElem? (i := 67) rfl))) (by decide) (t := .int) (t' := .int) (by decide) (by decide)))), (Fld.other W4 (Fld.other W3 hF_elementData_a1 (Or.inl hne_a1_d1)) (Or.inr (slot_ne (Or.inl (hw _ (List.mem_of_getElem? (i := 58) rfl))) (Or.inl (hw _ (List.mem_of_getElem? (i := 67) rfl))) (by decide) (t := (.array (.object "java/lang/Object"))) (t' := .int) (by decide) (by decide)))), Fw4, (V3.other W4 (Ne.symm hne_a1_d1))⟩
theorem own_add2_ef (m : MethodId) (x0 : Addr) (x1 : Addr) : entryFrame m #[(.ref x0), (.ref x1)] 2 = mkF m 0 #[.val (.ref x0), .val (.ref x1)] [] := by first | (simp [entryFrame, mkF, argsToLocals, Value.category]; done) | rfl
def own_add2_Q (Z : State) (a1 : Addr) (el0 : Addr) (el1 : Addr) (el2 : Addr) (u1 : Int32) (d1 : Addr) (kd : ClassId) (h0 : Heap) (n0 : Nat) (v : Option Value) (h : Heap) (L : List Loc) : Prop := (v = some (.int (1 : Int32)) ∧ Fr n0 L ∧ Keep h0 h [a1, d1] ∧ (Fld Z h a1 "java/util/AbstractList" "modCount" "I" (.int (u1 + (1 : Int32)))) ∧ (Fld Z h a1 "java/util/ArrayList" "elementData" "[Ljava/lang/Object;" (.ref d1)) ∧ (Fld Z h a1 "java/util/ArrayList" "size" "I" (.int (3 : Int32))) ∧ (Arv Z h d1 kd (.object "java/lang/Object") (10 : Int32) [(.ref el0), (.ref el1), (.ref el2), .null, .null, .null, .null, .null, .null, .null] .null))
set_option maxRecDepth 65536 in
set_option maxHeartbeats 40000000 in
theorem own_add2 (l : Launch) (Z : State) (a0 : Array Value) (hw : ∀ d ∈ tables_1, d.before a0 Z = true) (ws : List Jvm.Cond) (a1 : Addr) (el0 : Addr) (el1 : Addr) (el2 : Addr) (u1 : Int32) (d1 : Addr) (kd : ClassId) (h0 : Heap) (n0 : Nat) (Z0 : n0 ≤ h0.size) (hE_a1 : Exa Z h0 a1 "java/util/ArrayList") (hF_modCount_a1 : Fld Z h0 a1 "java/util/AbstractList" "modCount" "I" (.int u1)) (hF_elementData_a1 : Fld Z h0 a1 "java/util/ArrayList" "elementData" "[Ljava/lang/Object;" (.ref d1)) (hF_size_a1 : Fld Z h0 a1 "java/util/ArrayList" "size" "I" (.int (2 : Int32))) (ge_a1 : n0 ≤ a1) (hV_d1 : Arv Z h0 d1 kd (.object "java/lang/Object") (10 : Int32) [(.ref el0), (.ref el1), .null, .null, .null, .null, .null, .null, .null, .null] .null) (hOv_d1 : Ovr Z kd "java/lang/Object") (ge_d1 : n0 ≤ d1) (hne_a1_d1 : a1 ≠ d1) (hE_el2 : Exa Z h0 el2 "java/lang/String") :
    MetFree l (⟨"java/util/ArrayList", "add", "(Ljava/lang/Object;)Z"⟩ : MethodName) (head1 (Jvm.Cond.code (⟨"java/util/ArrayList", "add", "(Ljava/lang/Object;)Z"⟩ : MethodName) jdk_38_method_25_code 2 (some .boolean) :: ws) ({ frames := 1, cells := 0, slots := 0, locals := 15 } : Room)) (fun a U => a = #[(.ref a1), (.ref el2)] ∧ Z.Warmed39 U.vm ∧ U.heap = h0) (fun _ _ _ _ _ => True) (fun _ U o U' => ∃ v L, o = .returned v ∧ own_add2_Q Z a1 el0 el1 el2 u1 d1 kd h0 n0 v U'.heap L ∧ FrameEnd U o U' L ({ frames := 1, cells := 0, slots := 0, locals := 15 } : Room).cells ({ frames := 1, cells := 0, slots := 0, locals := 15 } : Room).slots) := by
  refine MetFree.of_bodySF (plainFor_of_name own_pn2) hisR ?_
  intro p e s m args below meth c s₁ Bd hml0 hP hK
  obtain ⟨rfl, hZ, hh⟩ := hP
  have hx := Bd.exec
  have hby := Bd.bytes
  have hlk : meth.locks = false := BodyLoose.notSynchronized Bd
  have hml : c.maxLocals = 2 := hml0
  have hown : s.vm.findClass "java/util/ArrayList" = some m.cls := findClass_of_methodNamed Bd.named
  have hnm := (name_of_methodNamed Bd.named Bd.method).1
  have X0 : Stand p l e ({ frames := 1, cells := 0, slots := 0, locals := 15 } : Room) s m #[(.ref a1), (.ref el2)] below meth c s₁ [] 0 0 := Stand.of_body Bd
  have e0 : s₁.heap = h0 := by rw [← hh, Bd.state]; rfl
  have N0 := Fr.nil n0
  refine own_start (QQ := own_add2_Q Z a1 el0 el1 el2 u1 d1 kd h0 n0) (rc := ({ frames := 1, cells := 0, slots := 0, locals := 15 } : Room).cells) (rs := ({ frames := 1, cells := 0, slots := 0, locals := 15 } : Room).slots) (own_add2_ef m a1 el2 ) ?_
  show own_G p.tables e below _ (s₁.setTop (mkF m 0 #[.val (.ref a1), .val (.ref el2)] []))
  refine own_fs (XS.aloadN X0.here hx rfl (hb hby own_d11_0) rfl rfl (Steps.refl _)) ?_
  show own_G p.tables e below _ (s₁.setTop (mkF m 1 #[.val (.ref a1), .val (.ref el2)] [(.ref a1)]))
  refine own_fs (XS.dup X0.here hx rfl (hb hby own_d11_1) rfl rfl (Steps.refl _)) ?_
  show own_G p.tables e below _ (s₁.setTop (mkF m 2 #[.val (.ref a1), .val (.ref el2)] [(.ref a1), (.ref a1)]))
  obtain ⟨T1, X1, e1, st1⟩ := getF X0 hx hZ hown (host := "") (Or.inl (hw _ (List.mem_of_getElem? (i := 64) rfl))) (Via.of (hw _ (List.mem_of_getElem? (i := 65) rfl))) e0 hF_modCount_a1 (g := (mkF m 2 #[.val (.ref a1), .val (.ref el2)] [(.ref a1), (.ref a1)])) rfl rfl (hb hby own_d11_2)
  refine own_fs (st1 _ (Steps.refl _)) ?_
  show own_G p.tables e below _ (T1.setTop (mkF m 5 #[.val (.ref a1), .val (.ref el2)] [(.int u1), (.ref a1)]))
  refine own_fs (XS.iconst X1.here hx rfl (hb hby own_d11_5) (Steps.refl _)) ?_
  show own_G p.tables e below _ (T1.setTop (mkF m 6 #[.val (.ref a1), .val (.ref el2)] [(.int (1 : Int32)), (.int u1), (.ref a1)]))
  refine own_fs (XS.iadd X1.here hx rfl (hb hby own_d11_6) rfl (Steps.refl _)) ?_
  show own_G p.tables e below _ (T1.setTop (mkF m 7 #[.val (.ref a1), .val (.ref el2)] [(.int (u1 + (1 : Int32))), (.ref a1)]))
  obtain ⟨T2, h2, X2, e2, W2, st2⟩ := putF X1 hx hZ hown (host := "") (Or.inl (hw _ (List.mem_of_getElem? (i := 64) rfl))) (Via.of (hw _ (List.mem_of_getElem? (i := 65) rfl))) e1 hF_modCount_a1 hE_a1 (Or.inl (hw _ (List.mem_of_getElem? (i := 55) rfl))) (hw _ (List.mem_of_getElem? (i := 36) rfl)) (ty := .int) (by decide) rfl rfl (g := (mkF m 7 #[.val (.ref a1), .val (.ref el2)] [(.int (u1 + (1 : Int32))), (.ref a1)])) rfl rfl (hb hby own_d11_7)
  refine own_fs (st2 _ (Steps.refl _)) ?_
  have Fw2 := Fld.same W2 hF_modCount_a1
  have N2 := Fr.snoc X2 N0 ge_a1
  show own_G p.tables e below _ (T2.setTop (mkF m 10 #[.val (.ref a1), .val (.ref el2)] []))
  refine own_fs (XS.aloadN X2.here hx rfl (hb hby own_d11_10) rfl rfl (Steps.refl _)) ?_
  show own_G p.tables e below _ (T2.setTop (mkF m 11 #[.val (.ref a1), .val (.ref el2)] [(.ref a1)]))
  refine own_fs (XS.aloadN X2.here hx rfl (hb hby own_d11_11) rfl rfl (Steps.refl _)) ?_
  show own_G p.tables e below _ (T2.setTop (mkF m 12 #[.val (.ref a1), .val (.ref el2)] [(.ref el2), (.ref a1)]))
  refine own_fs (XS.aloadN X2.here hx rfl (hb hby own_d11_12) rfl rfl (Steps.refl _)) ?_
  show own_G p.tables e below _ (T2.setTop (mkF m 13 #[.val (.ref a1), .val (.ref el2)] [(.ref a1), (.ref el2), (.ref a1)]))
  obtain ⟨T3, X3, e3, st3⟩ := getF X2 hx hZ hown (host := "") (Or.inl (hw _ (List.mem_of_getElem? (i := 57) rfl))) Via.refl e2 (Fld.other W2 hF_elementData_a1 (Or.inr (slot_ne (Or.inl (hw _ (List.mem_of_getElem? (i := 58) rfl))) (Or.inl (hw _ (List.mem_of_getElem? (i := 55) rfl))) (by decide) (t := (.array (.object "java/lang/Object"))) (t' := .int) (by decide) (by decide)))) (g := (mkF m 13 #[.val (.ref a1), .val (.ref el2)] [(.ref a1), (.ref el2), (.ref a1)])) rfl rfl (hb hby own_d11_13)
  refine own_fs (st3 _ (Steps.refl _)) ?_
  show own_G p.tables e below _ (T3.setTop (mkF m 16 #[.val (.ref a1), .val (.ref el2)] [(.ref d1), (.ref el2), (.ref a1)]))
  refine own_fs (XS.aloadN X3.here hx rfl (hb hby own_d11_16) rfl rfl (Steps.refl _)) ?_
  show own_G p.tables e below _ (T3.setTop (mkF m 17 #[.val (.ref a1), .val (.ref el2)] [(.ref a1), (.ref d1), (.ref el2), (.ref a1)]))
  obtain ⟨T4, X4, e4, st4⟩ := getF X3 hx hZ hown (host := "") (Or.inl (hw _ (List.mem_of_getElem? (i := 66) rfl))) Via.refl e3 (Fld.other W2 hF_size_a1 (Or.inr (slot_ne (Or.inl (hw _ (List.mem_of_getElem? (i := 67) rfl))) (Or.inl (hw _ (List.mem_of_getElem? (i := 55) rfl))) (by decide) (t := .int) (t' := .int) (by decide) (by decide)))) (g := (mkF m 17 #[.val (.ref a1), .val (.ref el2)] [(.ref a1), (.ref d1), (.ref el2), (.ref a1)])) rfl rfl (hb hby own_d11_17)
  refine own_fs (st4 _ (Steps.refl _)) ?_
  show own_G p.tables e below _ (T4.setTop (mkF m 20 #[.val (.ref a1), .val (.ref el2)] [(.int (2 : Int32)), (.ref d1), (.ref el2), (.ref a1)]))
  have Zs7 : n0 ≤ h2.size := (Nat.le_trans Z0 (Keep.of_wr W2).1)
  obtain ⟨cq6, q6, q6'⟩ := Exa.cell (Exa.wr W2 hE_a1)
  obtain ⟨_, _, ⟨T6, L6, k6, n6⟩, -, X6, ⟨Lc6, hQ6, l6, y6, z6⟩, st6⟩ := X4.privateBack hx (y := (⟨"java/util/ArrayList", "add", "(Ljava/lang/Object;[Ljava/lang/Object;I)V"⟩ : MethodName)) hown (mvT hZ (hw _ (List.mem_of_getElem? (i := 68) rfl))) (mvT hZ (hw _ (List.mem_of_getElem? (i := 69) rfl))) (mvT hZ (hw _ (List.mem_of_getElem? (i := 71) rfl))) (Cond.privateMethod_at (mvP hZ (hw _ (List.mem_of_getElem? (i := 70) rfl)) (args := #[]))) (mvT hZ (hw _ (List.mem_of_getElem? (i := 72) rfl))) (by decide) (backOf (W := 0) (own_addh2 l Z a0 hw [] a1 el0 el1 el2 (u1 + (1 : Int32)) d1 kd h2 n0 Zs7 (Exa.wr W2 hE_a1) Fw2 (Fld.other W2 hF_elementData_a1 (Or.inr (slot_ne (Or.inl (hw _ (List.mem_of_getElem? (i := 58) rfl))) (Or.inl (hw _ (List.mem_of_getElem? (i := 55) rfl))) (by decide) (t := (.array (.object "java/lang/Object"))) (t' := .int) (by decide) (by decide)))) (Fld.other W2 hF_size_a1 (Or.inr (slot_ne (Or.inl (hw _ (List.mem_of_getElem? (i := 67) rfl))) (Or.inl (hw _ (List.mem_of_getElem? (i := 55) rfl))) (by decide) (t := .int) (t' := .int) (by decide) (by decide)))) ge_a1 (hV_d1.other W2 (Ne.symm hne_a1_d1)) hOv_d1 ge_d1 hne_a1_d1 (Exa.wr W2 hE_el2)) hZ (hw _ (List.mem_of_getElem? (i := 72) rfl)) (hw _ (List.mem_of_getElem? (i := 37) rfl)) (by decide) (by decide)) (g := (mkF m 20 #[.val (.ref a1), .val (.ref el2)] [(.int (2 : Int32)), (.ref d1), (.ref el2), (.ref a1)])) rfl (by rw [hml]; rfl) (Steps.refl _) (a := a1) (by rw [e4]; exact q6) q6' (argsL := [(.ref el2), (.ref d1), (.int (2 : Int32))]) (rest := []) (lenOf own_pd4 rfl) rfl (by show 2 * 0 + _ ≤ _; exact Nat.le_of_eq rfl) (hb hby own_d11_20) (fun _ _ => ⟨rfl, e4, (by decide : 0 + 0 ≤ _), (by decide : 0 + 0 ≤ _)⟩)
  dsimp only [Pt.U, Pt.locs, Pt.cells, Pt.slots] at X6 l6 y6 z6 st6 hQ6
  subst l6 y6 z6
  obtain ⟨h6, e6⟩ : ∃ h, T6.heap = h := ⟨_, rfl⟩
  rw [e6] at hQ6
  obtain ⟨rfl, Nq6, K6, P5_0, P5_1, P5_2, P5_3⟩ := hQ6
  have N6 := Fr.app N2 Nq6
  refine own_fs st6 ?_
  show own_G p.tables e below _ (T6.setTop (mkF m 23 #[.val (.ref a1), .val (.ref el2)] []))
  refine own_fs (XS.iconst X6.here hx rfl (hb hby own_d11_23) (Steps.refl _)) ?_
  show own_G p.tables e below _ (T6.setTop (mkF m 24 #[.val (.ref a1), .val (.ref el2)] [(.int (1 : Int32))]))
  exact own_retN X6 hx (t := .boolean) Bd.returns hlk (by simp) (hb hby own_d11_24) (by decide) (by decide) e6 ⟨rfl, N6, (((Keep.refl _ _).wr W2 (Or.inl (List.mem_of_getElem? (i := 0) rfl))).trans K6 (allS (Or.inl (List.mem_of_getElem? (i := 0) rfl)) (allS (Or.inl (List.mem_of_getElem? (i := 1) rfl)) all0))), P5_0, P5_1, P5_2, P5_3⟩
theorem own_i_Record_ef (m : MethodId) (x0 : Addr) : entryFrame m #[(.ref x0)] 1 = mkF m 0 #[.val (.ref x0)] [] := by first | (simp [entryFrame, mkF, argsToLocals, Value.category]; done) | rfl
def own_i_Record_Q (Z : State) (a1 : Addr) (h0 : Heap) (n0 : Nat) (v : Option Value) (h : Heap) (L : List Loc) : Prop := (v = none ∧ Fr n0 L ∧ h = h0)
set_option maxRecDepth 65536 in
set_option maxHeartbeats 40000000 in
theorem own_i_Record (l : Launch) (Z : State) (a0 : Array Value) (hw : ∀ d ∈ tables_1, d.before a0 Z = true) (ws : List Jvm.Cond) (a1 : Addr) (h0 : Heap) (n0 : Nat) (Z0 : n0 ≤ h0.size)  :
    MetFree l (⟨"java/lang/Record", "<init>", "()V"⟩ : MethodName) (head1 (Jvm.Cond.code (⟨"java/lang/Record", "<init>", "()V"⟩ : MethodName) jdk_30_method_1_code 1 none :: ws) ({ frames := 1, cells := 0, slots := 0, locals := 12 } : Room)) (fun a U => a = #[(.ref a1)] ∧ Z.Warmed39 U.vm ∧ U.heap = h0) (fun _ _ _ _ _ => True) (fun _ U o U' => ∃ v L, o = .returned v ∧ own_i_Record_Q Z a1 h0 n0 v U'.heap L ∧ FrameEnd U o U' L ({ frames := 1, cells := 0, slots := 0, locals := 12 } : Room).cells ({ frames := 1, cells := 0, slots := 0, locals := 12 } : Room).slots) := by
  refine MetFree.of_bodySF (plainFor_of_name own_pn3) hisR ?_
  intro p e s m args below meth c s₁ Bd hml0 hP hK
  obtain ⟨rfl, hZ, hh⟩ := hP
  have hx := Bd.exec
  have hby := Bd.bytes
  have hlk : meth.locks = false := BodyLoose.notSynchronized Bd
  have hml : c.maxLocals = 1 := hml0
  have hown : s.vm.findClass "java/lang/Record" = some m.cls := findClass_of_methodNamed Bd.named
  have hnm := (name_of_methodNamed Bd.named Bd.method).1
  have X0 : Stand p l e ({ frames := 1, cells := 0, slots := 0, locals := 12 } : Room) s m #[(.ref a1)] below meth c s₁ [] 0 0 := Stand.of_body Bd
  have e0 : s₁.heap = h0 := by rw [← hh, Bd.state]; rfl
  have N0 := Fr.nil n0
  refine own_start (QQ := own_i_Record_Q Z a1 h0 n0) (rc := ({ frames := 1, cells := 0, slots := 0, locals := 12 } : Room).cells) (rs := ({ frames := 1, cells := 0, slots := 0, locals := 12 } : Room).slots) (own_i_Record_ef m a1 ) ?_
  show own_G p.tables e below _ (s₁.setTop (mkF m 0 #[.val (.ref a1)] []))
  refine own_fs (XS.aloadN X0.here hx rfl (hb hby own_d21_0) rfl rfl (Steps.refl _)) ?_
  show own_G p.tables e below _ (s₁.setTop (mkF m 1 #[.val (.ref a1)] [(.ref a1)]))
  obtain ⟨T1, X1, e1, st1⟩ := initO X0 hx hZ hown (hw _ (List.mem_of_getElem? (i := 115) rfl)) (hw _ (List.mem_of_getElem? (i := 17) rfl)) (hw _ (List.mem_of_getElem? (i := 18) rfl)) e0 (g := (mkF m 1 #[.val (.ref a1)] [(.ref a1)])) rfl (by rw [hml]; rfl) rfl (hb hby own_d21_1) (by decide) (W := 0) (by show 2 * 0 + _ ≤ _; exact Nat.le_of_eq rfl) (by decide)
  refine own_fs (st1 _ (Steps.refl _)) ?_
  show own_G p.tables e below _ (T1.setTop (mkF m 4 #[.val (.ref a1)] []))
  exact own_retV X1 hx Bd.returns hlk (hb hby own_d21_4) (by decide) (by decide) e1 ⟨rfl, N0, rfl⟩
theorem own_seg_ef (m : MethodId) (x0 : Int32) : entryFrame m #[(.int x0)] 2 = mkF m 0 #[.val (.int x0), .unset] [] := by first | (simp [entryFrame, mkF, argsToLocals, Value.category]; done) | rfl
def own_seg_Q (Z : State) (p1 : Int32) (cz : Int32) (h0 : Heap) (n0 : Nat) (v : Option Value) (h : Heap) (L : List Loc) : Prop := ∃ ar : Addr, (v = some (.ref ar) ∧ Fr n0 L ∧ Keep h0 h [] ∧ (Exa Z h ar "java/lang/String") ∧ (h0.size ≤ ar))
set_option maxRecDepth 65536 in
set_option maxHeartbeats 40000000 in
theorem own_seg (l : Launch) (Z : State) (a0 : Array Value) (hw : ∀ d ∈ tables_1, d.before a0 Z = true) (ws : List Jvm.Cond) (p1 : Int32) (cz : Int32) (h0 : Heap) (n0 : Nat) (Z0 : n0 ≤ h0.size) (hSc : Sta Z Z.heap "java/lang/String" "COMPACT_STRINGS" "Z" (.int cz)) (hcz : ¬ (cz = (0 : Int32))) (hOld : Old Z n0 h0) :
    MetFree l (⟨"com/example/corbelpath/corbelpath/TargetFileNamePinLaw", "seg", "(I)Ljava/lang/String;"⟩ : MethodName) (head1 (Jvm.Cond.code (⟨"com/example/corbelpath/corbelpath/TargetFileNamePinLaw", "seg", "(I)Ljava/lang/String;"⟩ : MethodName) method_2_code 2 (some (.object "java/lang/String")) :: ws) ({ frames := 4, cells := 3, slots := 8, locals := 66 } : Room)) (fun a U => a = #[(.int p1)] ∧ Z.Warmed39 U.vm ∧ U.heap = h0) (fun _ _ _ _ _ => True) (fun _ U o U' => ∃ v L, o = .returned v ∧ own_seg_Q Z p1 cz h0 n0 v U'.heap L ∧ FrameEnd U o U' L ({ frames := 4, cells := 3, slots := 8, locals := 66 } : Room).cells ({ frames := 4, cells := 3, slots := 8, locals := 66 } : Room).slots) := by
  refine MetFree.of_bodySF (plainFor_of_name own_pn4) hisR ?_
  intro p e s m args below meth c s₁ Bd hml0 hP hK
  obtain ⟨rfl, hZ, hh⟩ := hP
  have hx := Bd.exec
  have hby := Bd.bytes
  have hlk : meth.locks = false := BodyLoose.notSynchronized Bd
  have hml : c.maxLocals = 2 := hml0
  have hown : s.vm.findClass "com/example/corbelpath/corbelpath/TargetFileNamePinLaw" = some m.cls := findClass_of_methodNamed Bd.named
  have hnm := (name_of_methodNamed Bd.named Bd.method).1
  have X0 : Stand p l e ({ frames := 4, cells := 3, slots := 8, locals := 66 } : Room) s m #[(.int p1)] below meth c s₁ [] 0 0 := Stand.of_body Bd
  have e0 : s₁.heap = h0 := by rw [← hh, Bd.state]; rfl
  have N0 := Fr.nil n0
  refine own_start (QQ := own_seg_Q Z p1 cz h0 n0) (rc := ({ frames := 4, cells := 3, slots := 8, locals := 66 } : Room).cells) (rs := ({ frames := 4, cells := 3, slots := 8, locals := 66 } : Room).slots) (own_seg_ef m p1 ) ?_
  show own_G p.tables e below _ (s₁.setTop (mkF m 0 #[.val (.int p1), .unset] []))
  refine own_fs (XS.iconst X0.here hx rfl (hb hby own_d1_0) (Steps.refl _)) ?_
  show own_G p.tables e below _ (s₁.setTop (mkF m 1 #[.val (.int p1), .unset] [(.int (2 : Int32))]))
  obtain ⟨T1, h1, k1, X1, e1, E1, A1, st1⟩ := newP X0 hx hZ (hw _ (List.mem_of_getElem? (i := 5) rfl)) e0 (g := (mkF m 1 #[.val (.int p1), .unset] [(.int (2 : Int32))])) rfl (hb hby own_d1_1) rfl (by decide) (cap := 2) (by decide) (by decide) (by decide) (by decide)
  obtain ⟨b1, g1⟩ : ∃ z, z = h0.size := ⟨_, rfl⟩
  rw [← g1] at A1 st1
  have ge_b1 : n0 ≤ b1 := Nat.le_trans Z0 (Nat.le_of_eq g1.symm)
  have gz_b1 : h0.size ≤ b1 := Nat.le_trans (Nat.le_refl _) (Nat.le_of_eq g1.symm)
  have V_b1 : Arv Z h1 b1 k1 .char (2 : Int32) [(.int (0 : Int32)), (.int (0 : Int32))] (.int (0 : Int32)) := (Arv.new A1 (by decide)).pad (pad_rep [] (.int (0 : Int32)) 2)
  refine own_fs (st1 _ (Steps.refl _)) ?_
  show own_G p.tables e below _ (T1.setTop (mkF m 3 #[.val (.int p1), .unset] [(.ref b1)]))
  refine own_fs (XS.astoreN X1.here hx rfl (hb hby own_d1_3) rfl rfl (l' := #[.val (.int p1), .val (.ref b1)]) rfl (Steps.refl _)) ?_
  show own_G p.tables e below _ (T1.setTop (mkF m 4 #[.val (.int p1), .val (.ref b1)] []))
  refine own_fs (XS.aloadN X1.here hx rfl (hb hby own_d1_4) rfl rfl (Steps.refl _)) ?_
  show own_G p.tables e below _ (T1.setTop (mkF m 5 #[.val (.int p1), .val (.ref b1)] [(.ref b1)]))
  refine own_fs (XS.iconst X1.here hx rfl (hb hby own_d1_5) (Steps.refl _)) ?_
  show own_G p.tables e below _ (T1.setTop (mkF m 6 #[.val (.int p1), .val (.ref b1)] [(.int (0 : Int32)), (.ref b1)]))
  refine own_fs (XS.iloadN X1.here hx rfl (hb hby own_d1_6) rfl (Steps.refl _)) ?_
  show own_G p.tables e below _ (T1.setTop (mkF m 7 #[.val (.int p1), .val (.ref b1)] [(.int p1), (.int (0 : Int32)), (.ref b1)]))
  refine own_fs (XS.sipush X1.here hx rfl (hb hby own_d1_7) (Steps.refl _)) ?_
  show own_G p.tables e below _ (T1.setTop (mkF m 10 #[.val (.int p1), .val (.ref b1)] [(.int (255 : Int32)), (.int p1), (.int (0 : Int32)), (.ref b1)]))
  refine own_fs (XS.iand X1.here hx rfl (hb hby own_d1_10) rfl (Steps.refl _)) ?_
  show own_G p.tables e below _ (T1.setTop (mkF m 11 #[.val (.int p1), .val (.ref b1)] [(.int (p1 &&& (255 : Int32))), (.int (0 : Int32)), (.ref b1)]))
  refine own_fs (XS.i2c X1.here hx rfl (hb hby own_d1_11) rfl (Steps.refl _)) ?_
  show own_G p.tables e below _ (T1.setTop (mkF m 12 #[.val (.int p1), .val (.ref b1)] [(.int ((p1 &&& (255 : Int32)).toUInt32.toUInt16.toUInt32.toInt32)), (.int (0 : Int32)), (.ref b1)]))
  obtain ⟨cl2, Ar2, q2, S2, O2, H2, G2⟩ := (id V_b1)
  obtain ⟨T3, h3, X3, e3, W3, st3⟩ := stC X1 hx hZ e1 Ar2 (j := (0 : Int32)) (inb_of S2 ⟨by decide, by decide⟩) (g := (mkF m 12 #[.val (.int p1), .val (.ref b1)] [(.int ((p1 &&& (255 : Int32)).toUInt32.toUInt16.toUInt32.toInt32)), (.int (0 : Int32)), (.ref b1)])) rfl rfl (hb hby own_d1_12)
  refine own_fs (st3 _ (Steps.refl _)) ?_
  have V3 : Arv Z h3 b1 k1 .char (2 : Int32) [(.int (nar .char ((p1 &&& (255 : Int32)).toUInt32.toUInt16.toUInt32.toInt32))), (.int (0 : Int32))] (.int (0 : Int32)) := Arv.set Ar2 q2 S2 O2 H2 G2 (fits_nar_char _) W3 0 rfl (Nat.le_of_ble_eq_true rfl)
  have N3 := Fr.snoc X3 N0 ge_b1
  show own_G p.tables e below _ (T3.setTop (mkF m 13 #[.val (.int p1), .val (.ref b1)] []))
  refine own_fs (XS.aloadN X3.here hx rfl (hb hby own_d1_13) rfl rfl (Steps.refl _)) ?_
  show own_G p.tables e below _ (T3.setTop (mkF m 14 #[.val (.int p1), .val (.ref b1)] [(.ref b1)]))
  refine own_fs (XS.iconst X3.here hx rfl (hb hby own_d1_14) (Steps.refl _)) ?_
  show own_G p.tables e below _ (T3.setTop (mkF m 15 #[.val (.int p1), .val (.ref b1)] [(.int (1 : Int32)), (.ref b1)]))
  refine own_fs (XS.iloadN X3.here hx rfl (hb hby own_d1_15) rfl (Steps.refl _)) ?_
  show own_G p.tables e below _ (T3.setTop (mkF m 16 #[.val (.int p1), .val (.ref b1)] [(.int p1), (.int (1 : Int32)), (.ref b1)]))
  refine own_fs (XS.bipush X3.here hx rfl (hb hby own_d1_16) (Steps.refl _)) ?_
  show own_G p.tables e below _ (T3.setTop (mkF m 18 #[.val (.int p1), .val (.ref b1)] [(.int (8 : Int32)), (.int p1), (.int (1 : Int32)), (.ref b1)]))
  refine own_fs (XS.iushr X3.here hx rfl (hb hby own_d1_18) rfl (Steps.refl _)) ?_
  show own_G p.tables e below _ (T3.setTop (mkF m 19 #[.val (.int p1), .val (.ref b1)] [(.int ((p1.toUInt32 >>> ((8 : Int32) &&& 31).toUInt32).toInt32)), (.int (1 : Int32)), (.ref b1)]))
  refine own_fs (XS.sipush X3.here hx rfl (hb hby own_d1_19) (Steps.refl _)) ?_
  show own_G p.tables e below _ (T3.setTop (mkF m 22 #[.val (.int p1), .val (.ref b1)] [(.int (255 : Int32)), (.int ((p1.toUInt32 >>> ((8 : Int32) &&& 31).toUInt32).toInt32)), (.int (1 : Int32)), (.ref b1)]))
  refine own_fs (XS.iand X3.here hx rfl (hb hby own_d1_22) rfl (Steps.refl _)) ?_
  show own_G p.tables e below _ (T3.setTop (mkF m 23 #[.val (.int p1), .val (.ref b1)] [(.int (((p1.toUInt32 >>> ((8 : Int32) &&& 31).toUInt32).toInt32) &&& (255 : Int32))), (.int (1 : Int32)), (.ref b1)]))
  refine own_fs (XS.i2c X3.here hx rfl (hb hby own_d1_23) rfl (Steps.refl _)) ?_
  show own_G p.tables e below _ (T3.setTop (mkF m 24 #[.val (.int p1), .val (.ref b1)] [(.int ((((p1.toUInt32 >>> ((8 : Int32) &&& 31).toUInt32).toInt32) &&& (255 : Int32)).toUInt32.toUInt16.toUInt32.toInt32)), (.int (1 : Int32)), (.ref b1)]))
  obtain ⟨cl4, Ar4, q4, S4, O4, H4, G4⟩ := (id V3)
  obtain ⟨T5, h5, X5, e5, W5, st5⟩ := stC X3 hx hZ e3 Ar4 (j := (1 : Int32)) (inb_of S4 ⟨by decide, by decide⟩) (g := (mkF m 24 #[.val (.int p1), .val (.ref b1)] [(.int ((((p1.toUInt32 >>> ((8 : Int32) &&& 31).toUInt32).toInt32) &&& (255 : Int32)).toUInt32.toUInt16.toUInt32.toInt32)), (.int (1 : Int32)), (.ref b1)])) rfl rfl (hb hby own_d1_24)
  refine own_fs (st5 _ (Steps.refl _)) ?_
  have V5 : Arv Z h5 b1 k1 .char (2 : Int32) [(.int (nar .char ((p1 &&& (255 : Int32)).toUInt32.toUInt16.toUInt32.toInt32))), (.int (nar .char ((((p1.toUInt32 >>> ((8 : Int32) &&& 31).toUInt32).toInt32) &&& (255 : Int32)).toUInt32.toUInt16.toUInt32.toInt32)))] (.int (0 : Int32)) := Arv.set Ar4 q4 S4 O4 H4 G4 (fits_nar_char _) W5 1 rfl (Nat.le_of_ble_eq_true rfl)
  have N5 := Fr.snoc X5 N3 ge_b1
  show own_G p.tables e below _ (T5.setTop (mkF m 25 #[.val (.int p1), .val (.ref b1)] []))
  obtain ⟨T6, h6, X6, e6, E6, A6, D6, -, st6⟩ := newO X5 hx hZ hown (hw _ (List.mem_of_getElem? (i := 6) rfl)) (hw _ (List.mem_of_getElem? (i := 7) rfl)) (hw _ (List.mem_of_getElem? (i := 8) rfl)) e5 (g := (mkF m 25 #[.val (.int p1), .val (.ref b1)] [])) rfl (hb hby own_d1_25) (by decide) (by decide)
  obtain ⟨b6, g6⟩ : ∃ z, z = h5.size := ⟨_, rfl⟩
  rw [← g6] at A6 D6 st6
  have ge_b6 : n0 ≤ b6 := Nat.le_trans (Nat.le_trans (Nat.le_trans (Nat.le_trans Z0 E1.1) (Keep.of_wr W3).1) (Keep.of_wr W5).1) (Nat.le_of_eq g6.symm)
  have gz_b6 : h0.size ≤ b6 := Nat.le_trans (Nat.le_trans (Nat.le_trans (Nat.le_trans (Nat.le_refl _) E1.1) (Keep.of_wr W3).1) (Keep.of_wr W5).1) (Nat.le_of_eq g6.symm)
  have F_coder_b6 : Fld Z h6 b6 "java/lang/String" "coder" "B" (.int (0 : Int32)) := D6 (Or.inr (hw _ (List.mem_of_getElem? (i := 32) rfl))) (ty := .byte) (by decide)
  have F_value_b6 : Fld Z h6 b6 "java/lang/String" "value" "[B" .null := D6 (Or.inr (hw _ (List.mem_of_getElem? (i := 34) rfl))) (ty := (.array .byte)) (by decide)
  refine own_fs (st6 _ (Steps.refl _)) ?_
  show own_G p.tables e below _ (T6.setTop (mkF m 28 #[.val (.int p1), .val (.ref b1)] [(.ref b6)]))
  refine own_fs (XS.dup X6.here hx rfl (hb hby own_d1_28) rfl rfl (Steps.refl _)) ?_
  show own_G p.tables e below _ (T6.setTop (mkF m 29 #[.val (.int p1), .val (.ref b1)] [(.ref b6), (.ref b6)]))
  refine own_fs (XS.aloadN X6.here hx rfl (hb hby own_d1_29) rfl rfl (Steps.refl _)) ?_
  show own_G p.tables e below _ (T6.setTop (mkF m 30 #[.val (.int p1), .val (.ref b1)] [(.ref b1), (.ref b6), (.ref b6)]))
  have hws : ∀ d ∈ StrChars.Road.words, d.before a0 Z = true := fun d hd => hw d ((by decide +kernel : ∀ d ∈ StrChars.Road.words, d ∈ tables_1) d hd)
  have hlat : ∀ c ∈ [(nar .char ((p1 &&& (255 : Int32)).toUInt32.toUInt16.toUInt32.toInt32)), (nar .char ((((p1.toUInt32 >>> ((8 : Int32) &&& 31).toUInt32).toInt32) &&& (255 : Int32)).toUInt32.toUInt16.toUInt32.toInt32))], ¬ c < 0 ∧ ¬ (255 : Int32) < c := by
    intro c hc
    simp only [List.mem_cons, List.not_mem_nil, or_false] at hc
    rcases hc with rfl | rfl
    · rw [own_nch]; exact own_ch _
    · rw [own_nch]; exact own_ch _
  have Zs10 : n0 ≤ h6.size := (Nat.le_trans (Nat.le_trans (Nat.le_trans (Nat.le_trans Z0 E1.1) (Keep.of_wr W3).1) (Keep.of_wr W5).1) E6.1)
  obtain ⟨_, _, ⟨T9, L9, k9, n9⟩, -, X9, ⟨Lc9, hQ9, l9, y9, z9⟩, st9⟩ := X6.specialBack hx (y := (⟨"java/lang/String", "<init>", "([C)V"⟩ : MethodName)) rfl hown (mvT hZ (hw _ (List.mem_of_getElem? (i := 9) rfl))) (mvT hZ (hw _ (List.mem_of_getElem? (i := 10) rfl))) (mvT hZ (hw _ (List.mem_of_getElem? (i := 11) rfl))) (by decide) (StrChars.Road.backV (W := 1) hZ hws (kI := 4) (hw _ (List.mem_of_getElem? (i := 7) rfl)) (cs := [(nar .char ((p1 &&& (255 : Int32)).toUInt32.toUInt16.toUInt32.toInt32)), (nar .char ((((p1.toUInt32 >>> ((8 : Int32) &&& 31).toUInt32).toInt32) &&& (255 : Int32)).toUInt32.toUInt16.toUInt32.toInt32))]) (bs := [((nar .char ((p1 &&& (255 : Int32)).toUInt32.toUInt16.toUInt32.toInt32))).toInt8.toInt32, ((nar .char ((((p1.toUInt32 >>> ((8 : Int32) &&& 31).toUInt32).toInt32) &&& (255 : Int32)).toUInt32.toUInt16.toUInt32.toInt32))).toInt8.toInt32]) (n := 2) ge_b6 (Nat.le_trans (Nat.le_trans (Nat.le_trans (Nat.le_trans Z0 E1.1) (Keep.of_wr W3).1) (Keep.of_wr W5).1) E6.1) A6 F_value_b6 F_coder_b6 (V5.ext E6) (Sta.ext (Old.ext (Old.wr (Old.wr (Old.ext hOld E1) W3 ge_b1) W5 ge_b1) E6).2 hSc) hcz rfl rfl (by decide) (by decide) hlat rfl (by decide) (by decide)) (g := (mkF m 30 #[.val (.int p1), .val (.ref b1)] [(.ref b1), (.ref b6), (.ref b6)])) rfl (by rw [hml]; rfl) (Steps.refl _) (a := b6) (argsL := [(.ref b1)]) (rest := [(.ref b6)]) (lenOf own_pd5 rfl) rfl (by show 2 * 0 + _ ≤ _; exact Nat.le_of_eq rfl) (hb hby own_d1_30) (fun _ _ => ⟨rfl, e6, (by decide : 2 + 1 ≤ _), (by decide : 6 + 2 ≤ _)⟩)
  dsimp only [Pt.U, Pt.locs, Pt.cells, Pt.slots] at X9 l9 y9 z9 st9 hQ9
  subst l9 y9 z9
  obtain ⟨h9, e9⟩ : ∃ h, T9.heap = h := ⟨_, rfl⟩
  rw [e9] at hQ9
  obtain ⟨rfl, Nq9, K9, PE8, PC8, tt8, kb8, Pg8, Pz8, Pn8, PV8, PA8⟩ := hQ9
  have N9 := Fr.app N5 Nq9
  refine own_fs st9 ?_
  show own_G p.tables e below _ (T9.setTop (mkF m 33 #[.val (.int p1), .val (.ref b1)] [(.ref b6)]))
  exact own_retA X9 hx (t := (.object "java/lang/String")) Bd.returns hlk rfl rfl (hb hby own_d1_33) (by decide) (by decide) e9 ⟨b6, rfl, N9, ((((((Keep.refl _ _).ext E1).wr W3 (Or.inr gz_b1)).wr W5 (Or.inr gz_b1)).ext E6).trans K9 (allS (Or.inr gz_b6) all0)), PE8, gz_b6⟩
theorem own_canEncode_ef (m : MethodId) (x0 : Int32) : entryFrame m #[(.int x0)] 1 = mkF m 0 #[.val (.int x0)] [] := by first | (simp [entryFrame, mkF, argsToLocals, Value.category]; done) | rfl
def own_canEncode_Q (Z : State) (p1 : Int32) (h0 : Heap) (n0 : Nat) (v : Option Value) (h : Heap) (L : List Loc) : Prop := (v = some (.int (1 : Int32)) ∧ Fr n0 L ∧ h = h0)
set_option maxRecDepth 65536 in
set_option maxHeartbeats 40000000 in
theorem own_canEncode (l : Launch) (Z : State) (a0 : Array Value) (hw : ∀ d ∈ tables_1, d.before a0 Z = true) (ws : List Jvm.Cond) (p1 : Int32) (h0 : Heap) (n0 : Nat) (Z0 : n0 ≤ h0.size) (hch : ¬ ((255 : Int32) < p1)) :
    MetFree l (⟨"java/lang/StringLatin1", "canEncode", "(C)Z"⟩ : MethodName) (head1 (Jvm.Cond.code (⟨"java/lang/StringLatin1", "canEncode", "(C)Z"⟩ : MethodName) jdk_43_method_3_code 1 (some .boolean) :: ws) ({ frames := 0, cells := 0, slots := 0, locals := 0 } : Room)) (fun a U => a = #[(.int p1)] ∧ Z.Warmed39 U.vm ∧ U.heap = h0) (fun _ _ _ _ _ => True) (fun _ U o U' => ∃ v L, o = .returned v ∧ own_canEncode_Q Z p1 h0 n0 v U'.heap L ∧ FrameEnd U o U' L ({ frames := 0, cells := 0, slots := 0, locals := 0 } : Room).cells ({ frames := 0, cells := 0, slots := 0, locals := 0 } : Room).slots) := by
  refine MetFree.of_bodySF (plainFor_of_name own_pn5) hisR ?_
  intro p e s m args below meth c s₁ Bd hml0 hP hK
  obtain ⟨rfl, hZ, hh⟩ := hP
  have hx := Bd.exec
  have hby := Bd.bytes
  have hlk : meth.locks = false := BodyLoose.notSynchronized Bd
  have hml : c.maxLocals = 1 := hml0
  have hown : s.vm.findClass "java/lang/StringLatin1" = some m.cls := findClass_of_methodNamed Bd.named
  have hnm := (name_of_methodNamed Bd.named Bd.method).1
  have X0 : Stand p l e ({ frames := 0, cells := 0, slots := 0, locals := 0 } : Room) s m #[(.int p1)] below meth c s₁ [] 0 0 := Stand.of_body Bd
  have e0 : s₁.heap = h0 := by rw [← hh, Bd.state]; rfl
  have N0 := Fr.nil n0
  refine own_start (QQ := own_canEncode_Q Z p1 h0 n0) (rc := ({ frames := 0, cells := 0, slots := 0, locals := 0 } : Room).cells) (rs := ({ frames := 0, cells := 0, slots := 0, locals := 0 } : Room).slots) (own_canEncode_ef m p1 ) ?_
  show own_G p.tables e below _ (s₁.setTop (mkF m 0 #[.val (.int p1)] []))
  refine own_fs (XS.iloadN X0.here hx rfl (hb hby own_d17_0) rfl (Steps.refl _)) ?_
  show own_G p.tables e below _ (s₁.setTop (mkF m 1 #[.val (.int p1)] [(.int p1)]))
  refine own_fs (XS.sipush X0.here hx rfl (hb hby own_d17_1) (Steps.refl _)) ?_
  show own_G p.tables e below _ (s₁.setTop (mkF m 4 #[.val (.int p1)] [(.int (255 : Int32)), (.int p1)]))
  refine own_fs (XS.icmpNo X0.here hx rfl (hb hby own_d17_4) rfl (XT.ii_gt_f hch) (Steps.refl _)) ?_
  show own_G p.tables e below _ (s₁.setTop (mkF m 7 #[.val (.int p1)] []))
  refine own_fs (XS.iconst X0.here hx rfl (hb hby own_d17_7) (Steps.refl _)) ?_
  show own_G p.tables e below _ (s₁.setTop (mkF m 8 #[.val (.int p1)] [(.int (1 : Int32))]))
  refine own_fs (XS.goto X0.here hx rfl (pc0 := 8) (pc' := 12) rfl (hb hby own_d17_8) (by decide) (by decide) (Steps.refl _)) ?_
  show own_G p.tables e below _ (s₁.setTop (mkF m 12 #[.val (.int p1)] [(.int (1 : Int32))]))
  exact own_retN X0 hx (t := .boolean) Bd.returns hlk (by simp) (hb hby own_d17_12) (by decide) (by decide) e0 ⟨own_nar1s, N0, rfl⟩
theorem own_toBytes_ef (m : MethodId) (x0 : Int32) : entryFrame m #[(.int x0)] 1 = mkF m 0 #[.val (.int x0)] [] := by first | (simp [entryFrame, mkF, argsToLocals, Value.category]; done) | rfl
def own_toBytes_Q (Z : State) (p1 : Int32) (h0 : Heap) (n0 : Nat) (v : Option Value) (h : Heap) (L : List Loc) : Prop := ∃ ar : Addr, (v = some (.ref ar) ∧ Fr n0 L ∧ Keep h0 h [] ∧ (h0.size ≤ ar))
set_option maxRecDepth 65536 in
set_option maxHeartbeats 40000000 in
theorem own_toBytes (l : Launch) (Z : State) (a0 : Array Value) (hw : ∀ d ∈ tables_1, d.before a0 Z = true) (ws : List Jvm.Cond) (p1 : Int32) (h0 : Heap) (n0 : Nat) (Z0 : n0 ≤ h0.size)  :
    MetFree l (⟨"java/lang/StringLatin1", "toBytes", "(C)[B"⟩ : MethodName) (head1 (Jvm.Cond.code (⟨"java/lang/StringLatin1", "toBytes", "(C)[B"⟩ : MethodName) jdk_43_method_46_code 1 (some (.array .byte)) :: ws) ({ frames := 0, cells := 1, slots := 1, locals := 0 } : Room)) (fun a U => a = #[(.int p1)] ∧ Z.Warmed39 U.vm ∧ U.heap = h0) (fun _ _ _ _ _ => True) (fun _ U o U' => ∃ v L, o = .returned v ∧ own_toBytes_Q Z p1 h0 n0 v U'.heap L ∧ FrameEnd U o U' L ({ frames := 0, cells := 1, slots := 1, locals := 0 } : Room).cells ({ frames := 0, cells := 1, slots := 1, locals := 0 } : Room).slots) := by
  refine MetFree.of_bodySF (plainFor_of_name own_pn5) hisR ?_
  intro p e s m args below meth c s₁ Bd hml0 hP hK
  obtain ⟨rfl, hZ, hh⟩ := hP
  have hx := Bd.exec
  have hby := Bd.bytes
  have hlk : meth.locks = false := BodyLoose.notSynchronized Bd
  have hml : c.maxLocals = 1 := hml0
  have hown : s.vm.findClass "java/lang/StringLatin1" = some m.cls := findClass_of_methodNamed Bd.named
  have hnm := (name_of_methodNamed Bd.named Bd.method).1
  have X0 : Stand p l e ({ frames := 0, cells := 1, slots := 1, locals := 0 } : Room) s m #[(.int p1)] below meth c s₁ [] 0 0 := Stand.of_body Bd
  have e0 : s₁.heap = h0 := by rw [← hh, Bd.state]; rfl
  have N0 := Fr.nil n0
  refine own_start (QQ := own_toBytes_Q Z p1 h0 n0) (rc := ({ frames := 0, cells := 1, slots := 1, locals := 0 } : Room).cells) (rs := ({ frames := 0, cells := 1, slots := 1, locals := 0 } : Room).slots) (own_toBytes_ef m p1 ) ?_
  show own_G p.tables e below _ (s₁.setTop (mkF m 0 #[.val (.int p1)] []))
  refine own_fs (XS.iconst X0.here hx rfl (hb hby own_d18_0) (Steps.refl _)) ?_
  show own_G p.tables e below _ (s₁.setTop (mkF m 1 #[.val (.int p1)] [(.int (1 : Int32))]))
  obtain ⟨T1, h1, k1, X1, e1, E1, A1, st1⟩ := newP X0 hx hZ (hw _ (List.mem_of_getElem? (i := 24) rfl)) e0 (g := (mkF m 1 #[.val (.int p1)] [(.int (1 : Int32))])) rfl (hb hby own_d18_1) rfl (by decide) (cap := 1) (by decide) (by decide) (by decide) (by decide)
  obtain ⟨b1, g1⟩ : ∃ z, z = h0.size := ⟨_, rfl⟩
  rw [← g1] at A1 st1
  have ge_b1 : n0 ≤ b1 := Nat.le_trans Z0 (Nat.le_of_eq g1.symm)
  have gz_b1 : h0.size ≤ b1 := Nat.le_trans (Nat.le_refl _) (Nat.le_of_eq g1.symm)
  have V_b1 : Arv Z h1 b1 k1 .byte (1 : Int32) [(.int (0 : Int32))] (.int (0 : Int32)) := (Arv.new A1 (by decide)).pad (pad_rep [] (.int (0 : Int32)) 1)
  refine own_fs (st1 _ (Steps.refl _)) ?_
  show own_G p.tables e below _ (T1.setTop (mkF m 3 #[.val (.int p1)] [(.ref b1)]))
  refine own_fs (XS.dup X1.here hx rfl (hb hby own_d18_3) rfl rfl (Steps.refl _)) ?_
  show own_G p.tables e below _ (T1.setTop (mkF m 4 #[.val (.int p1)] [(.ref b1), (.ref b1)]))
  refine own_fs (XS.iconst X1.here hx rfl (hb hby own_d18_4) (Steps.refl _)) ?_
  show own_G p.tables e below _ (T1.setTop (mkF m 5 #[.val (.int p1)] [(.int (0 : Int32)), (.ref b1), (.ref b1)]))
  refine own_fs (XS.iloadN X1.here hx rfl (hb hby own_d18_5) rfl (Steps.refl _)) ?_
  show own_G p.tables e below _ (T1.setTop (mkF m 6 #[.val (.int p1)] [(.int p1), (.int (0 : Int32)), (.ref b1), (.ref b1)]))
  refine own_fs (XS.i2b X1.here hx rfl (hb hby own_d18_6) rfl (Steps.refl _)) ?_
  show own_G p.tables e below _ (T1.setTop (mkF m 7 #[.val (.int p1)] [(.int (p1.toInt8.toInt32)), (.int (0 : Int32)), (.ref b1), (.ref b1)]))
  obtain ⟨cl2, Ar2, q2, S2, O2, H2, G2⟩ := (id V_b1)
  obtain ⟨T3, h3, X3, e3, W3, st3⟩ := stB X1 hx hZ e1 Ar2 (j := (0 : Int32)) (inb_of S2 ⟨by decide, by decide⟩) (g := (mkF m 7 #[.val (.int p1)] [(.int (p1.toInt8.toInt32)), (.int (0 : Int32)), (.ref b1), (.ref b1)])) rfl rfl (hb hby own_d18_7)
  refine own_fs (st3 _ (Steps.refl _)) ?_
  have V3 : Arv Z h3 b1 k1 .byte (1 : Int32) [(.int (nar .byte (p1.toInt8.toInt32)))] (.int (0 : Int32)) := Arv.set Ar2 q2 S2 O2 H2 G2 (fits_nar_byte _) W3 0 rfl (Nat.le_of_ble_eq_true rfl)
  have N3 := Fr.snoc X3 N0 ge_b1
  show own_G p.tables e below _ (T3.setTop (mkF m 8 #[.val (.int p1)] [(.ref b1)]))
  exact own_retA X3 hx (t := (.array .byte)) Bd.returns hlk rfl rfl (hb hby own_d18_8) (by decide) (by decide) e3 ⟨b1, rfl, N3, (((Keep.refl _ _).ext E1).wr W3 (Or.inr gz_b1)), gz_b1⟩
theorem own_i_String_ef (m : MethodId) (x0 : Addr) (x1 : Addr) (x2 : Int32) : entryFrame m #[(.ref x0), (.ref x1), (.int x2)] 3 = mkF m 0 #[.val (.ref x0), .val (.ref x1), .val (.int x2)] [] := by first | (simp [entryFrame, mkF, argsToLocals, Value.category]; done) | rfl
def own_i_String_Q (Z : State) (a1 : Addr) (bb : Addr) (p1 : Int32) (u1 : Value) (u2 : Int32) (h0 : Heap) (n0 : Nat) (v : Option Value) (h : Heap) (L : List Loc) : Prop := (v = none ∧ Fr n0 L ∧ Keep h0 h [a1])
set_option maxRecDepth 65536 in
set_option maxHeartbeats 40000000 in
theorem own_i_String (l : Launch) (Z : State) (a0 : Array Value) (hw : ∀ d ∈ tables_1, d.before a0 Z = true) (ws : List Jvm.Cond) (a1 : Addr) (bb : Addr) (p1 : Int32) (u1 : Value) (u2 : Int32) (h0 : Heap) (n0 : Nat) (Z0 : n0 ≤ h0.size) (hE_a1 : Exa Z h0 a1 "java/lang/String") (hF_value_a1 : Fld Z h0 a1 "java/lang/String" "value" "[B" u1) (hF_coder_a1 : Fld Z h0 a1 "java/lang/String" "coder" "B" (.int u2)) (ge_a1 : n0 ≤ a1) :
    MetFree l (⟨"java/lang/String", "<init>", "([BB)V"⟩ : MethodName) (head1 (Jvm.Cond.code (⟨"java/lang/String", "<init>", "([BB)V"⟩ : MethodName) jdk_42_method_151_code 3 none :: ws) ({ frames := 1, cells := 0, slots := 0, locals := 12 } : Room)) (fun a U => a = #[(.ref a1), (.ref bb), (.int p1)] ∧ Z.Warmed39 U.vm ∧ U.heap = h0) (fun _ _ _ _ _ => True) (fun _ U o U' => ∃ v L, o = .returned v ∧ own_i_String_Q Z a1 bb p1 u1 u2 h0 n0 v U'.heap L ∧ FrameEnd U o U' L ({ frames := 1, cells := 0, slots := 0, locals := 12 } : Room).cells ({ frames := 1, cells := 0, slots := 0, locals := 12 } : Room).slots) := by
  refine MetFree.of_bodySF (plainFor_of_name own_pn6) hisR ?_
  intro p e s m args below meth c s₁ Bd hml0 hP hK
  obtain ⟨rfl, hZ, hh⟩ := hP
  have hx := Bd.exec
  have hby := Bd.bytes
  have hlk : meth.locks = false := BodyLoose.notSynchronized Bd
  have hml : c.maxLocals = 3 := hml0
  have hown : s.vm.findClass "java/lang/String" = some m.cls := findClass_of_methodNamed Bd.named
  have hnm := (name_of_methodNamed Bd.named Bd.method).1
  have X0 : Stand p l e ({ frames := 1, cells := 0, slots := 0, locals := 12 } : Room) s m #[(.ref a1), (.ref bb), (.int p1)] below meth c s₁ [] 0 0 := Stand.of_body Bd
  have e0 : s₁.heap = h0 := by rw [← hh, Bd.state]; rfl
  have N0 := Fr.nil n0
  refine own_start (QQ := own_i_String_Q Z a1 bb p1 u1 u2 h0 n0) (rc := ({ frames := 1, cells := 0, slots := 0, locals := 12 } : Room).cells) (rs := ({ frames := 1, cells := 0, slots := 0, locals := 12 } : Room).slots) (own_i_String_ef m a1 bb p1 ) ?_
  show own_G p.tables e below _ (s₁.setTop (mkF m 0 #[.val (.ref a1), .val (.ref bb), .val (.int p1)] []))
  refine own_fs (XS.aloadN X0.here hx rfl (hb hby own_d19_0) rfl rfl (Steps.refl _)) ?_
  show own_G p.tables e below _ (s₁.setTop (mkF m 1 #[.val (.ref a1), .val (.ref bb), .val (.int p1)] [(.ref a1)]))
  obtain ⟨T1, X1, e1, st1⟩ := initO X0 hx hZ hown (hw _ (List.mem_of_getElem? (i := 16) rfl)) (hw _ (List.mem_of_getElem? (i := 17) rfl)) (hw _ (List.mem_of_getElem? (i := 18) rfl)) e0 (g := (mkF m 1 #[.val (.ref a1), .val (.ref bb), .val (.int p1)] [(.ref a1)])) rfl (by rw [hml]; rfl) rfl (hb hby own_d19_1) (by decide) (W := 0) (by show 2 * 0 + _ ≤ _; exact Nat.le_of_eq rfl) (by decide)
  refine own_fs (st1 _ (Steps.refl _)) ?_
  show own_G p.tables e below _ (T1.setTop (mkF m 4 #[.val (.ref a1), .val (.ref bb), .val (.int p1)] []))
  refine own_fs (XS.aloadN X1.here hx rfl (hb hby own_d19_4) rfl rfl (Steps.refl _)) ?_
  show own_G p.tables e below _ (T1.setTop (mkF m 5 #[.val (.ref a1), .val (.ref bb), .val (.int p1)] [(.ref a1)]))
  refine own_fs (XS.aloadN X1.here hx rfl (hb hby own_d19_5) rfl rfl (Steps.refl _)) ?_
  show own_G p.tables e below _ (T1.setTop (mkF m 6 #[.val (.ref a1), .val (.ref bb), .val (.int p1)] [(.ref bb), (.ref a1)]))
  obtain ⟨T2, h2, X2, e2, W2, st2⟩ := putF X1 hx hZ hown (host := "") (Or.inl (hw _ (List.mem_of_getElem? (i := 33) rfl))) Via.refl e1 hF_value_a1 hE_a1 (Or.inr ⟨(hw _ (List.mem_of_getElem? (i := 34) rfl)), rfl, hnm⟩) (hw _ (List.mem_of_getElem? (i := 7) rfl)) (ty := (.array .byte)) (by decide) rfl rfl (g := (mkF m 6 #[.val (.ref a1), .val (.ref bb), .val (.int p1)] [(.ref bb), (.ref a1)])) rfl rfl (hb hby own_d19_6)
  refine own_fs (st2 _ (Steps.refl _)) ?_
  have Fw2 := Fld.same W2 hF_value_a1
  have N2 := Fr.snoc X2 N0 ge_a1
  show own_G p.tables e below _ (T2.setTop (mkF m 9 #[.val (.ref a1), .val (.ref bb), .val (.int p1)] []))
  refine own_fs (XS.aloadN X2.here hx rfl (hb hby own_d19_9) rfl rfl (Steps.refl _)) ?_
  show own_G p.tables e below _ (T2.setTop (mkF m 10 #[.val (.ref a1), .val (.ref bb), .val (.int p1)] [(.ref a1)]))
  refine own_fs (XS.iloadN X2.here hx rfl (hb hby own_d19_10) rfl (Steps.refl _)) ?_
  show own_G p.tables e below _ (T2.setTop (mkF m 11 #[.val (.ref a1), .val (.ref bb), .val (.int p1)] [(.int p1), (.ref a1)]))
  obtain ⟨T3, h3, X3, e3, W3, st3⟩ := putFN X2 hx hZ hown (hw _ (List.mem_of_getElem? (i := 31) rfl)) Via.refl e2 (Fld.other W2 hF_coder_a1 (Or.inr (slot_ne (Or.inr (hw _ (List.mem_of_getElem? (i := 32) rfl))) (Or.inr (hw _ (List.mem_of_getElem? (i := 34) rfl))) (by decide) (t := .byte) (t' := (.array .byte)) (by decide) (by decide)))) (Exa.wr W2 hE_a1) (Or.inr ⟨(hw _ (List.mem_of_getElem? (i := 32) rfl)), rfl, hnm⟩) (hw _ (List.mem_of_getElem? (i := 7) rfl)) (ty := .byte) (v' := .int (nar .byte p1)) (by decide) rfl (fits_nar_byte _) (g := (mkF m 11 #[.val (.ref a1), .val (.ref bb), .val (.int p1)] [(.int p1), (.ref a1)])) rfl rfl (hb hby own_d19_11)
  refine own_fs (st3 _ (Steps.refl _)) ?_
  have Fw3 := Fld.same W3 (Fld.other W2 hF_coder_a1 (Or.inr (slot_ne (Or.inr (hw _ (List.mem_of_getElem? (i := 32) rfl))) (Or.inr (hw _ (List.mem_of_getElem? (i := 34) rfl))) (by decide) (t := .byte) (t' := (.array .byte)) (by decide) (by decide))))
  have N3 := Fr.snoc X3 N2 ge_a1
  show own_G p.tables e below _ (T3.setTop (mkF m 14 #[.val (.ref a1), .val (.ref bb), .val (.int p1)] []))
  exact own_retV X3 hx Bd.returns hlk (hb hby own_d19_14) (by decide) (by decide) e3 ⟨rfl, N3, (((Keep.refl _ _).wr W2 (Or.inl (List.mem_of_getElem? (i := 0) rfl))).wr W3 (Or.inl (List.mem_of_getElem? (i := 0) rfl)))⟩
theorem own_valueOfC_ef (m : MethodId) (x0 : Int32) : entryFrame m #[(.int x0)] 1 = mkF m 0 #[.val (.int x0)] [] := by first | (simp [entryFrame, mkF, argsToLocals, Value.category]; done) | rfl
def own_valueOfC_Q (Z : State) (p1 : Int32) (cz : Int32) (h0 : Heap) (n0 : Nat) (v : Option Value) (h : Heap) (L : List Loc) : Prop := ∃ ar : Addr, (v = some (.ref ar) ∧ Fr n0 L ∧ Keep h0 h [] ∧ (Exa Z h ar "java/lang/String") ∧ (h0.size ≤ ar))
set_option maxRecDepth 65536 in
set_option maxHeartbeats 40000000 in
theorem own_valueOfC (l : Launch) (Z : State) (a0 : Array Value) (hw : ∀ d ∈ tables_1, d.before a0 Z = true) (ws : List Jvm.Cond) (p1 : Int32) (cz : Int32) (h0 : Heap) (n0 : Nat) (Z0 : n0 ≤ h0.size) (hSc : Sta Z Z.heap "java/lang/String" "COMPACT_STRINGS" "Z" (.int cz)) (hcz : ¬ (cz = (0 : Int32))) (hOld : Old Z n0 h0) (hch : ¬ ((255 : Int32) < p1)) :
    MetFree l (⟨"java/lang/String", "valueOf", "(C)Ljava/lang/String;"⟩ : MethodName) (head1 (Jvm.Cond.code (⟨"java/lang/String", "valueOf", "(C)Ljava/lang/String;"⟩ : MethodName) jdk_42_method_139_code 1 (some (.object "java/lang/String")) :: ws) ({ frames := 2, cells := 2, slots := 5, locals := 27 } : Room)) (fun a U => a = #[(.int p1)] ∧ Z.Warmed39 U.vm ∧ U.heap = h0) (fun _ _ _ _ _ => True) (fun _ U o U' => ∃ v L, o = .returned v ∧ own_valueOfC_Q Z p1 cz h0 n0 v U'.heap L ∧ FrameEnd U o U' L ({ frames := 2, cells := 2, slots := 5, locals := 27 } : Room).cells ({ frames := 2, cells := 2, slots := 5, locals := 27 } : Room).slots) := by
  refine MetFree.of_bodySF (plainFor_of_name own_pn6) hisR ?_
  intro p e s m args below meth c s₁ Bd hml0 hP hK
  obtain ⟨rfl, hZ, hh⟩ := hP
  have hx := Bd.exec
  have hby := Bd.bytes
  have hlk : meth.locks = false := BodyLoose.notSynchronized Bd
  have hml : c.maxLocals = 1 := hml0
  have hown : s.vm.findClass "java/lang/String" = some m.cls := findClass_of_methodNamed Bd.named
  have hnm := (name_of_methodNamed Bd.named Bd.method).1
  have X0 : Stand p l e ({ frames := 2, cells := 2, slots := 5, locals := 27 } : Room) s m #[(.int p1)] below meth c s₁ [] 0 0 := Stand.of_body Bd
  have e0 : s₁.heap = h0 := by rw [← hh, Bd.state]; rfl
  have N0 := Fr.nil n0
  refine own_start (QQ := own_valueOfC_Q Z p1 cz h0 n0) (rc := ({ frames := 2, cells := 2, slots := 5, locals := 27 } : Room).cells) (rs := ({ frames := 2, cells := 2, slots := 5, locals := 27 } : Room).slots) (own_valueOfC_ef m p1 ) ?_
  show own_G p.tables e below _ (s₁.setTop (mkF m 0 #[.val (.int p1)] []))
  obtain ⟨T1, X1, e1, st1⟩ := getS2 X0 hx hZ hown (host := "") (Or.inl (hw _ (List.mem_of_getElem? (i := 19) rfl))) Via.refl e0 (Sta.ext hOld.2 hSc) (g := (mkF m 0 #[.val (.int p1)] [])) rfl (hb hby own_d16_0)
  refine own_fs (st1 _ (Steps.refl _)) ?_
  show own_G p.tables e below _ (T1.setTop (mkF m 3 #[.val (.int p1)] [(.int cz)]))
  refine own_fs (XS.ifNo X1.here hx rfl (hb hby own_d16_3) rfl (XT.i0_eq_f hcz) (Steps.refl _)) ?_
  show own_G p.tables e below _ (T1.setTop (mkF m 6 #[.val (.int p1)] []))
  refine own_fs (XS.iloadN X1.here hx rfl (hb hby own_d16_6) rfl (Steps.refl _)) ?_
  show own_G p.tables e below _ (T1.setTop (mkF m 7 #[.val (.int p1)] [(.int p1)]))
  have Zs4 : n0 ≤ h0.size := Z0
  obtain ⟨_, _, ⟨T3, L3, k3, n3⟩, -, X3, ⟨Lc3, hQ3, l3, y3, z3⟩, st3⟩ := Jvm.LawKit.callS X1 hx (y := (⟨"java/lang/StringLatin1", "canEncode", "(C)Z"⟩ : MethodName)) hown (mvT hZ (hw _ (List.mem_of_getElem? (i := 93) rfl))) (mvT hZ (hw _ (List.mem_of_getElem? (i := 94) rfl))) (mvT hZ (hw _ (List.mem_of_getElem? (i := 95) rfl))) (mvT hZ (hw _ (List.mem_of_getElem? (i := 96) rfl))) (by decide) (backOf (W := 0) (own_canEncode l Z a0 hw [] p1 h0 n0 Zs4 hch) hZ (hw _ (List.mem_of_getElem? (i := 96) rfl)) (hw _ (List.mem_of_getElem? (i := 95) rfl)) (by decide) (by decide)) (g := (mkF m 7 #[.val (.int p1)] [(.int p1)])) rfl (by rw [hml]; rfl) (argsL := [(.int p1)]) (rest := []) (lenOf own_pd6 rfl) rfl (by show 2 * 0 + _ ≤ _; exact Nat.le_of_eq rfl) (hb hby own_d16_7) (fun _ _ => ⟨rfl, e1, (by decide : 0 + 0 ≤ _), (by decide : 0 + 0 ≤ _)⟩)
  dsimp only [Pt.U, Pt.locs, Pt.cells, Pt.slots] at X3 l3 y3 z3 st3 hQ3
  subst l3 y3 z3
  obtain ⟨rfl, Nq3, e3⟩ := hQ3
  have N3 := Fr.app N0 Nq3
  refine own_fs (st3 _ (Steps.refl _)) ?_
  show own_G p.tables e below _ (T3.setTop (mkF m 10 #[.val (.int p1)] [(.int (1 : Int32))]))
  refine own_fs (XS.ifNo X3.here hx rfl (hb hby own_d16_10) rfl (XT.i0_eq_f (by decide : ¬ ((1 : Int32) = (0 : Int32)))) (Steps.refl _)) ?_
  show own_G p.tables e below _ (T3.setTop (mkF m 13 #[.val (.int p1)] []))
  obtain ⟨T5, h5, X5, e5, E5, A5, D5, -, st5⟩ := newO X3 hx hZ hown (hw _ (List.mem_of_getElem? (i := 97) rfl)) (hw _ (List.mem_of_getElem? (i := 7) rfl)) (hw _ (List.mem_of_getElem? (i := 8) rfl)) e3 (g := (mkF m 13 #[.val (.int p1)] [])) rfl (hb hby own_d16_13) (by decide) (by decide)
  obtain ⟨b5, g5⟩ : ∃ z, z = h0.size := ⟨_, rfl⟩
  rw [← g5] at A5 D5 st5
  have ge_b5 : n0 ≤ b5 := Nat.le_trans Z0 (Nat.le_of_eq g5.symm)
  have gz_b5 : h0.size ≤ b5 := Nat.le_trans (Nat.le_refl _) (Nat.le_of_eq g5.symm)
  have F_coder_b5 : Fld Z h5 b5 "java/lang/String" "coder" "B" (.int (0 : Int32)) := D5 (Or.inr (hw _ (List.mem_of_getElem? (i := 32) rfl))) (ty := .byte) (by decide)
  have F_value_b5 : Fld Z h5 b5 "java/lang/String" "value" "[B" .null := D5 (Or.inr (hw _ (List.mem_of_getElem? (i := 34) rfl))) (ty := (.array .byte)) (by decide)
  refine own_fs (st5 _ (Steps.refl _)) ?_
  show own_G p.tables e below _ (T5.setTop (mkF m 16 #[.val (.int p1)] [(.ref b5)]))
  refine own_fs (XS.dup X5.here hx rfl (hb hby own_d16_16) rfl rfl (Steps.refl _)) ?_
  show own_G p.tables e below _ (T5.setTop (mkF m 17 #[.val (.int p1)] [(.ref b5), (.ref b5)]))
  refine own_fs (XS.iloadN X5.here hx rfl (hb hby own_d16_17) rfl (Steps.refl _)) ?_
  show own_G p.tables e below _ (T5.setTop (mkF m 18 #[.val (.int p1)] [(.int p1), (.ref b5), (.ref b5)]))
  have Zs9 : n0 ≤ h5.size := (Nat.le_trans Z0 E5.1)
  obtain ⟨_, _, ⟨T8, L8, k8, n8⟩, -, X8, ⟨Lc8, hQ8, l8, y8, z8⟩, st8⟩ := Jvm.LawKit.callS X5 hx (y := (⟨"java/lang/StringLatin1", "toBytes", "(C)[B"⟩ : MethodName)) hown (mvT hZ (hw _ (List.mem_of_getElem? (i := 98) rfl))) (mvT hZ (hw _ (List.mem_of_getElem? (i := 99) rfl))) (mvT hZ (hw _ (List.mem_of_getElem? (i := 95) rfl))) (mvT hZ (hw _ (List.mem_of_getElem? (i := 100) rfl))) (by decide) (backOf (W := 2) (own_toBytes l Z a0 hw [] p1 h5 n0 Zs9 ) hZ (hw _ (List.mem_of_getElem? (i := 100) rfl)) (hw _ (List.mem_of_getElem? (i := 95) rfl)) (by decide) (by decide)) (g := (mkF m 18 #[.val (.int p1)] [(.int p1), (.ref b5), (.ref b5)])) rfl (by rw [hml]; rfl) (argsL := [(.int p1)]) (rest := [(.ref b5), (.ref b5)]) (lenOf own_pd7 rfl) rfl (by show 2 * 0 + _ ≤ _; exact Nat.le_of_eq rfl) (hb hby own_d16_18) (fun _ _ => ⟨rfl, e5, (by decide : 1 + 1 ≤ _), (by decide : 4 + 1 ≤ _)⟩)
  dsimp only [Pt.U, Pt.locs, Pt.cells, Pt.slots] at X8 l8 y8 z8 st8 hQ8
  subst l8 y8 z8
  obtain ⟨h8, e8⟩ : ∃ h, T8.heap = h := ⟨_, rfl⟩
  rw [e8] at hQ8
  obtain ⟨ar6, rfl, Nq8, K8, P7_0⟩ := hQ8
  have N8 := Fr.app N3 Nq8
  have ge_ar6 : n0 ≤ ar6 := Nat.le_trans (Nat.le_trans Z0 E5.1) P7_0
  have gz_ar6 : h0.size ≤ ar6 := Nat.le_trans (Nat.le_trans (Nat.le_refl _) E5.1) P7_0
  refine own_fs (st8 _ (Steps.refl _)) ?_
  show own_G p.tables e below _ (T8.setTop (mkF m 21 #[.val (.int p1)] [(.ref ar6), (.ref b5), (.ref b5)]))
  refine own_fs (XS.iconst X8.here hx rfl (hb hby own_d16_21) (Steps.refl _)) ?_
  show own_G p.tables e below _ (T8.setTop (mkF m 22 #[.val (.int p1)] [(.int (0 : Int32)), (.ref ar6), (.ref b5), (.ref b5)]))
  have Zs12 : n0 ≤ h8.size := (Nat.le_trans (Nat.le_trans Z0 E5.1) K8.1)
  obtain ⟨_, _, ⟨T11, L11, k11, n11⟩, -, X11, ⟨Lc11, hQ11, l11, y11, z11⟩, st11⟩ := X8.specialBack hx (y := (⟨"java/lang/String", "<init>", "([BB)V"⟩ : MethodName)) rfl hown (mvT hZ (hw _ (List.mem_of_getElem? (i := 101) rfl))) (mvT hZ (hw _ (List.mem_of_getElem? (i := 102) rfl))) (mvT hZ (hw _ (List.mem_of_getElem? (i := 103) rfl))) (by decide) (backOf (W := 1) (own_i_String l Z a0 hw [] b5 ar6 (0 : Int32) (.null) (0 : Int32) h8 n0 Zs12 (A5.keep K8) (F_value_b5.keep K8 nin0) (F_coder_b5.keep K8 nin0) ge_b5) hZ (hw _ (List.mem_of_getElem? (i := 103) rfl)) (hw _ (List.mem_of_getElem? (i := 8) rfl)) (by decide) (by decide)) (g := (mkF m 22 #[.val (.int p1)] [(.int (0 : Int32)), (.ref ar6), (.ref b5), (.ref b5)])) rfl (by rw [hml]; rfl) (Steps.refl _) (a := b5) (argsL := [(.ref ar6), (.int (0 : Int32))]) (rest := [(.ref b5)]) (lenOf own_pd8 rfl) rfl (by show 2 * 0 + _ ≤ _; exact Nat.le_of_eq rfl) (hb hby own_d16_22) (fun _ _ => ⟨rfl, e8, (by decide : 2 + 0 ≤ _), (by decide : 5 + 0 ≤ _)⟩)
  dsimp only [Pt.U, Pt.locs, Pt.cells, Pt.slots] at X11 l11 y11 z11 st11 hQ11
  subst l11 y11 z11
  obtain ⟨h11, e11⟩ : ∃ h, T11.heap = h := ⟨_, rfl⟩
  rw [e11] at hQ11
  obtain ⟨rfl, Nq11, K11⟩ := hQ11
  have N11 := Fr.app N8 Nq11
  refine own_fs st11 ?_
  show own_G p.tables e below _ (T11.setTop (mkF m 25 #[.val (.int p1)] [(.ref b5)]))
  exact own_retA X11 hx (t := (.object "java/lang/String")) Bd.returns hlk rfl rfl (hb hby own_d16_25) (by decide) (by decide) e11 ⟨b5, rfl, N11, ((((Keep.refl _ _).ext E5).trans K8 all0).trans K11 (allS (Or.inr gz_b5) all0)), ((A5.keep K8).keep K11), gz_b5⟩
theorem own_i_Target0_ef (m : MethodId) (x0 : Addr) (x1 : Addr) (x2 : Addr) (x3 : Addr) (x4 : Addr) : entryFrame m #[(.ref x0), (.ref x1), (.ref x2), (.ref x3), (.ref x4)] 5 = mkF m 0 #[.val (.ref x0), .val (.ref x1), .val (.ref x2), .val (.ref x3), .val (.ref x4)] [] := by first | (simp [entryFrame, mkF, argsToLocals, Value.category]; done) | rfl
def own_i_Target0_Q (Z : State) (a1 : Addr) (s1 : Addr) (s2 : Addr) (s3 : Addr) (al : Addr) (u0 : Value) (u1 : Value) (u2 : Value) (u3 : Value) (h0 : Heap) (n0 : Nat) (v : Option Value) (h : Heap) (L : List Loc) : Prop := (v = none ∧ Fr n0 L ∧ Keep h0 h [a1] ∧ (Fld Z h a1 "com/example/corbelpath/corbelpath/Deployment$Target" "path" "Ljava/util/List;" (.ref al)))
set_option maxRecDepth 65536 in
set_option maxHeartbeats 40000000 in
theorem own_i_Target0 (l : Launch) (Z : State) (a0 : Array Value) (hw : ∀ d ∈ tables_1, d.before a0 Z = true) (ws : List Jvm.Cond) (a1 : Addr) (s1 : Addr) (s2 : Addr) (s3 : Addr) (al : Addr) (u0 : Value) (u1 : Value) (u2 : Value) (u3 : Value) (h0 : Heap) (n0 : Nat) (Z0 : n0 ≤ h0.size) (hE_a1 : Exa Z h0 a1 "com/example/corbelpath/corbelpath/Deployment$Target") (hF_version_a1 : Fld Z h0 a1 "com/example/corbelpath/corbelpath/Deployment$Target" "version" "Ljava/lang/String;" u0) (hF_locale_a1 : Fld Z h0 a1 "com/example/corbelpath/corbelpath/Deployment$Target" "locale" "Ljava/lang/String;" u1) (hF_library_a1 : Fld Z h0 a1 "com/example/corbelpath/corbelpath/Deployment$Target" "library" "Ljava/lang/String;" u2) (hF_path_a1 : Fld Z h0 a1 "com/example/corbelpath/corbelpath/Deployment$Target" "path" "Ljava/util/List;" u3) (ge_a1 : n0 ≤ a1) :
    MetFree l (⟨"com/example/corbelpath/corbelpath/Deployment$Target", "<init>", "(Ljava/lang/String;Ljava/lang/String;Ljava/lang/String;Ljava/util/List;)V"⟩ : MethodName) (head1 (Jvm.Cond.code (⟨"com/example/corbelpath/corbelpath/Deployment$Target", "<init>", "(Ljava/lang/String;Ljava/lang/String;Ljava/lang/String;Ljava/util/List;)V"⟩ : MethodName) prog_27_method_1_code 5 none :: ws) ({ frames := 2, cells := 0, slots := 0, locals := 24 } : Room)) (fun a U => a = #[(.ref a1), (.ref s1), (.ref s2), (.ref s3), (.ref al)] ∧ Z.Warmed39 U.vm ∧ U.heap = h0) (fun _ _ _ _ _ => True) (fun _ U o U' => ∃ v L, o = .returned v ∧ own_i_Target0_Q Z a1 s1 s2 s3 al u0 u1 u2 u3 h0 n0 v U'.heap L ∧ FrameEnd U o U' L ({ frames := 2, cells := 0, slots := 0, locals := 24 } : Room).cells ({ frames := 2, cells := 0, slots := 0, locals := 24 } : Room).slots) := by
  refine MetFree.of_bodySF (plainFor_of_name own_pn7) hisR ?_
  intro p e s m args below meth c s₁ Bd hml0 hP hK
  obtain ⟨rfl, hZ, hh⟩ := hP
  have hx := Bd.exec
  have hby := Bd.bytes
  have hlk : meth.locks = false := BodyLoose.notSynchronized Bd
  have hml : c.maxLocals = 5 := hml0
  have hown : s.vm.findClass "com/example/corbelpath/corbelpath/Deployment$Target" = some m.cls := findClass_of_methodNamed Bd.named
  have hnm := (name_of_methodNamed Bd.named Bd.method).1
  have X0 : Stand p l e ({ frames := 2, cells := 0, slots := 0, locals := 24 } : Room) s m #[(.ref a1), (.ref s1), (.ref s2), (.ref s3), (.ref al)] below meth c s₁ [] 0 0 := Stand.of_body Bd
  have e0 : s₁.heap = h0 := by rw [← hh, Bd.state]; rfl
  have N0 := Fr.nil n0
  refine own_start (QQ := own_i_Target0_Q Z a1 s1 s2 s3 al u0 u1 u2 u3 h0 n0) (rc := ({ frames := 2, cells := 0, slots := 0, locals := 24 } : Room).cells) (rs := ({ frames := 2, cells := 0, slots := 0, locals := 24 } : Room).slots) (own_i_Target0_ef m a1 s1 s2 s3 al ) ?_
  show own_G p.tables e below _ (s₁.setTop (mkF m 0 #[.val (.ref a1), .val (.ref s1), .val (.ref s2), .val (.ref s3), .val (.ref al)] []))
  refine own_fs (XS.aloadN X0.here hx rfl (hb hby own_d20_0) rfl rfl (Steps.refl _)) ?_
  show own_G p.tables e below _ (s₁.setTop (mkF m 1 #[.val (.ref a1), .val (.ref s1), .val (.ref s2), .val (.ref s3), .val (.ref al)] [(.ref a1)]))
  have Zs3 : n0 ≤ h0.size := Z0
  obtain ⟨_, _, ⟨T2, L2, k2, n2⟩, -, X2, ⟨Lc2, hQ2, l2, y2, z2⟩, st2⟩ := X0.specialBack hx (y := (⟨"java/lang/Record", "<init>", "()V"⟩ : MethodName)) rfl hown (mvT hZ (hw _ (List.mem_of_getElem? (i := 110) rfl))) (mvT hZ (hw _ (List.mem_of_getElem? (i := 111) rfl))) (mvT hZ (hw _ (List.mem_of_getElem? (i := 114) rfl))) (by decide) (backOf (W := 0) (own_i_Record l Z a0 hw [] a1 h0 n0 Zs3 ) hZ (hw _ (List.mem_of_getElem? (i := 114) rfl)) (hw _ (List.mem_of_getElem? (i := 113) rfl)) (by decide) (by decide)) (g := (mkF m 1 #[.val (.ref a1), .val (.ref s1), .val (.ref s2), .val (.ref s3), .val (.ref al)] [(.ref a1)])) rfl (by rw [hml]; rfl) (Steps.refl _) (a := a1) (argsL := []) (rest := []) (lenOf own_pd0 rfl) rfl (by show 2 * 0 + _ ≤ _; exact Nat.le_of_eq rfl) (hb hby own_d20_1) (fun _ _ => ⟨rfl, e0, (by decide : 0 + 0 ≤ _), (by decide : 0 + 0 ≤ _)⟩)
  dsimp only [Pt.U, Pt.locs, Pt.cells, Pt.slots] at X2 l2 y2 z2 st2 hQ2
  subst l2 y2 z2
  obtain ⟨rfl, Nq2, e2⟩ := hQ2
  have N2 := Fr.app N0 Nq2
  refine own_fs st2 ?_
  show own_G p.tables e below _ (T2.setTop (mkF m 4 #[.val (.ref a1), .val (.ref s1), .val (.ref s2), .val (.ref s3), .val (.ref al)] []))
  refine own_fs (XS.aloadN X2.here hx rfl (hb hby own_d20_4) rfl rfl (Steps.refl _)) ?_
  show own_G p.tables e below _ (T2.setTop (mkF m 5 #[.val (.ref a1), .val (.ref s1), .val (.ref s2), .val (.ref s3), .val (.ref al)] [(.ref a1)]))
  refine own_fs (XS.aloadN X2.here hx rfl (hb hby own_d20_5) rfl rfl (Steps.refl _)) ?_
  show own_G p.tables e below _ (T2.setTop (mkF m 6 #[.val (.ref a1), .val (.ref s1), .val (.ref s2), .val (.ref s3), .val (.ref al)] [(.ref s1), (.ref a1)]))
  obtain ⟨T4, h4, X4, e4, W4, st4⟩ := putF X2 hx hZ hown (host := "") (Or.inl (hw _ (List.mem_of_getElem? (i := 116) rfl))) Via.refl e2 hF_version_a1 hE_a1 (Or.inr ⟨(hw _ (List.mem_of_getElem? (i := 117) rfl)), rfl, hnm⟩) (hw _ (List.mem_of_getElem? (i := 105) rfl)) (ty := (.object "java/lang/String")) (by decide) rfl rfl (g := (mkF m 6 #[.val (.ref a1), .val (.ref s1), .val (.ref s2), .val (.ref s3), .val (.ref al)] [(.ref s1), (.ref a1)])) rfl rfl (hb hby own_d20_6)
  refine own_fs (st4 _ (Steps.refl _)) ?_
  have Fw4 := Fld.same W4 hF_version_a1
  have N4 := Fr.snoc X4 N2 ge_a1
  show own_G p.tables e below _ (T4.setTop (mkF m 9 #[.val (.ref a1), .val (.ref s1), .val (.ref s2), .val (.ref s3), .val (.ref al)] []))
  refine own_fs (XS.aloadN X4.here hx rfl (hb hby own_d20_9) rfl rfl (Steps.refl _)) ?_
  show own_G p.tables e below _ (T4.setTop (mkF m 10 #[.val (.ref a1), .val (.ref s1), .val (.ref s2), .val (.ref s3), .val (.ref al)] [(.ref a1)]))
  refine own_fs (XS.aloadN X4.here hx rfl (hb hby own_d20_10) rfl rfl (Steps.refl _)) ?_
  show own_G p.tables e below _ (T4.setTop (mkF m 11 #[.val (.ref a1), .val (.ref s1), .val (.ref s2), .val (.ref s3), .val (.ref al)] [(.ref s2), (.ref a1)]))
  obtain ⟨T5, h5, X5, e5, W5, st5⟩ := putF X4 hx hZ hown (host := "") (Or.inl (hw _ (List.mem_of_getElem? (i := 118) rfl))) Via.refl e4 (Fld.other W4 hF_locale_a1 (Or.inr (slot_ne (Or.inr (hw _ (List.mem_of_getElem? (i := 119) rfl))) (Or.inr (hw _ (List.mem_of_getElem? (i := 117) rfl))) (by decide) (t := (.object "java/lang/String")) (t' := (.object "java/lang/String")) (by decide) (by decide)))) (Exa.wr W4 hE_a1) (Or.inr ⟨(hw _ (List.mem_of_getElem? (i := 119) rfl)), rfl, hnm⟩) (hw _ (List.mem_of_getElem? (i := 105) rfl)) (ty := (.object "java/lang/String")) (by decide) rfl rfl (g := (mkF m 11 #[.val (.ref a1), .val (.ref s1), .val (.ref s2), .val (.ref s3), .val (.ref al)] [(.ref s2), (.ref a1)])) rfl rfl (hb hby own_d20_11)
  refine own_fs (st5 _ (Steps.refl _)) ?_
  have Fw5 := Fld.same W5 (Fld.other W4 hF_locale_a1 (Or.inr (slot_ne (Or.inr (hw _ (List.mem_of_getElem? (i := 119) rfl))) (Or.inr (hw _ (List.mem_of_getElem? (i := 117) rfl))) (by decide) (t := (.object "java/lang/String")) (t' := (.object "java/lang/String")) (by decide) (by decide))))
  have N5 := Fr.snoc X5 N4 ge_a1
  show own_G p.tables e below _ (T5.setTop (mkF m 14 #[.val (.ref a1), .val (.ref s1), .val (.ref s2), .val (.ref s3), .val (.ref al)] []))
  refine own_fs (XS.aloadN X5.here hx rfl (hb hby own_d20_14) rfl rfl (Steps.refl _)) ?_
  show own_G p.tables e below _ (T5.setTop (mkF m 15 #[.val (.ref a1), .val (.ref s1), .val (.ref s2), .val (.ref s3), .val (.ref al)] [(.ref a1)]))
  refine own_fs (XS.aloadN X5.here hx rfl (hb hby own_d20_15) rfl rfl (Steps.refl _)) ?_
  show own_G p.tables e below _ (T5.setTop (mkF m 16 #[.val (.ref a1), .val (.ref s1), .val (.ref s2), .val (.ref s3), .val (.ref al)] [(.ref s3), (.ref a1)]))
  obtain ⟨T6, h6, X6, e6, W6, st6⟩ := putF X5 hx hZ hown (host := "") (Or.inl (hw _ (List.mem_of_getElem? (i := 120) rfl))) Via.refl e5 (Fld.other W5 (Fld.other W4 hF_library_a1 (Or.inr (slot_ne (Or.inr (hw _ (List.mem_of_getElem? (i := 121) rfl))) (Or.inr (hw _ (List.mem_of_getElem? (i := 117) rfl))) (by decide) (t := (.object "java/lang/String")) (t' := (.object "java/lang/String")) (by decide) (by decide)))) (Or.inr (slot_ne (Or.inr (hw _ (List.mem_of_getElem? (i := 121) rfl))) (Or.inr (hw _ (List.mem_of_getElem? (i := 119) rfl))) (by decide) (t := (.object "java/lang/String")) (t' := (.object "java/lang/String")) (by decide) (by decide)))) (Exa.wr W5 (Exa.wr W4 hE_a1)) (Or.inr ⟨(hw _ (List.mem_of_getElem? (i := 121) rfl)), rfl, hnm⟩) (hw _ (List.mem_of_getElem? (i := 105) rfl)) (ty := (.object "java/lang/String")) (by decide) rfl rfl (g := (mkF m 16 #[.val (.ref a1), .val (.ref s1), .val (.ref s2), .val (.ref s3), .val (.ref al)] [(.ref s3), (.ref a1)])) rfl rfl (hb hby own_d20_16)
  refine own_fs (st6 _ (Steps.refl _)) ?_
  have Fw6 := Fld.same W6 (Fld.other W5 (Fld.other W4 hF_library_a1 (Or.inr (slot_ne (Or.inr (hw _ (List.mem_of_getElem? (i := 121) rfl))) (Or.inr (hw _ (List.mem_of_getElem? (i := 117) rfl))) (by decide) (t := (.object "java/lang/String")) (t' := (.object "java/lang/String")) (by decide) (by decide)))) (Or.inr (slot_ne (Or.inr (hw _ (List.mem_of_getElem? (i := 121) rfl))) (Or.inr (hw _ (List.mem_of_getElem? (i := 119) rfl))) (by decide) (t := (.object "java/lang/String")) (t' := (.object "java/lang/String")) (by decide) (by decide))))
  have N6 := Fr.snoc X6 N5 ge_a1
  show own_G p.tables e below _ (T6.setTop (mkF m 19 #[.val (.ref a1), .val (.ref s1), .val (.ref s2), .val (.ref s3), .val (.ref al)] []))
  refine own_fs (XS.aloadN X6.here hx rfl (hb hby own_d20_19) rfl rfl (Steps.refl _)) ?_
  show own_G p.tables e below _ (T6.setTop (mkF m 20 #[.val (.ref a1), .val (.ref s1), .val (.ref s2), .val (.ref s3), .val (.ref al)] [(.ref a1)]))
  refine own_fs (XS.aload X6.here hx rfl (hb hby own_d20_20) rfl rfl (Steps.refl _)) ?_
  show own_G p.tables e below _ (T6.setTop (mkF m 22 #[.val (.ref a1), .val (.ref s1), .val (.ref s2), .val (.ref s3), .val (.ref al)] [(.ref al), (.ref a1)]))
  obtain ⟨T7, h7, X7, e7, W7, st7⟩ := putF X6 hx hZ hown (host := "") (Or.inl (hw _ (List.mem_of_getElem? (i := 122) rfl))) Via.refl e6 (Fld.other W6 (Fld.other W5 (Fld.other W4 hF_path_a1 (Or.inr (slot_ne (Or.inr (hw _ (List.mem_of_getElem? (i := 123) rfl))) (Or.inr (hw _ (List.mem_of_getElem? (i := 117) rfl))) (by decide) (t := (.object "java/util/List")) (t' := (.object "java/lang/String")) (by decide) (by decide)))) (Or.inr (slot_ne (Or.inr (hw _ (List.mem_of_getElem? (i := 123) rfl))) (Or.inr (hw _ (List.mem_of_getElem? (i := 119) rfl))) (by decide) (t := (.object "java/util/List")) (t' := (.object "java/lang/String")) (by decide) (by decide)))) (Or.inr (slot_ne (Or.inr (hw _ (List.mem_of_getElem? (i := 123) rfl))) (Or.inr (hw _ (List.mem_of_getElem? (i := 121) rfl))) (by decide) (t := (.object "java/util/List")) (t' := (.object "java/lang/String")) (by decide) (by decide)))) (Exa.wr W6 (Exa.wr W5 (Exa.wr W4 hE_a1))) (Or.inr ⟨(hw _ (List.mem_of_getElem? (i := 123) rfl)), rfl, hnm⟩) (hw _ (List.mem_of_getElem? (i := 105) rfl)) (ty := (.object "java/util/List")) (by decide) rfl rfl (g := (mkF m 22 #[.val (.ref a1), .val (.ref s1), .val (.ref s2), .val (.ref s3), .val (.ref al)] [(.ref al), (.ref a1)])) rfl rfl (hb hby own_d20_22)
  refine own_fs (st7 _ (Steps.refl _)) ?_
  have Fw7 := Fld.same W7 (Fld.other W6 (Fld.other W5 (Fld.other W4 hF_path_a1 (Or.inr (slot_ne (Or.inr (hw _ (List.mem_of_getElem? (i := 123) rfl))) (Or.inr (hw _ (List.mem_of_getElem? (i := 117) rfl))) (by decide) (t := (.object "java/util/List")) (t' := (.object "java/lang/String")) (by decide) (by decide)))) (Or.inr (slot_ne (Or.inr (hw _ (List.mem_of_getElem? (i := 123) rfl))) (Or.inr (hw _ (List.mem_of_getElem? (i := 119) rfl))) (by decide) (t := (.object "java/util/List")) (t' := (.object "java/lang/String")) (by decide) (by decide)))) (Or.inr (slot_ne (Or.inr (hw _ (List.mem_of_getElem? (i := 123) rfl))) (Or.inr (hw _ (List.mem_of_getElem? (i := 121) rfl))) (by decide) (t := (.object "java/util/List")) (t' := (.object "java/lang/String")) (by decide) (by decide))))
  have N7 := Fr.snoc X7 N6 ge_a1
  show own_G p.tables e below _ (T7.setTop (mkF m 25 #[.val (.ref a1), .val (.ref s1), .val (.ref s2), .val (.ref s3), .val (.ref al)] []))
  exact own_retV X7 hx Bd.returns hlk (hb hby own_d20_25) (by decide) (by decide) e7 ⟨rfl, N7, (((((Keep.refl _ _).wr W4 (Or.inl (List.mem_of_getElem? (i := 0) rfl))).wr W5 (Or.inl (List.mem_of_getElem? (i := 0) rfl))).wr W6 (Or.inl (List.mem_of_getElem? (i := 0) rfl))).wr W7 (Or.inl (List.mem_of_getElem? (i := 0) rfl))), Fw7⟩
theorem own_i_Target1_ef (m : MethodId) (x0 : Addr) (x1 : Addr) (x3 : Addr) (x4 : Addr) : entryFrame m #[(.ref x0), (.ref x1), .null, (.ref x3), (.ref x4)] 5 = mkF m 0 #[.val (.ref x0), .val (.ref x1), .val .null, .val (.ref x3), .val (.ref x4)] [] := by first | (simp [entryFrame, mkF, argsToLocals, Value.category]; done) | rfl
def own_i_Target1_Q (Z : State) (a1 : Addr) (s1 : Addr) (s3 : Addr) (al : Addr) (u0 : Value) (u1 : Value) (u2 : Value) (u3 : Value) (h0 : Heap) (n0 : Nat) (v : Option Value) (h : Heap) (L : List Loc) : Prop := (v = none ∧ Fr n0 L ∧ Keep h0 h [a1] ∧ (Fld Z h a1 "com/example/corbelpath/corbelpath/Deployment$Target" "path" "Ljava/util/List;" (.ref al)))
set_option maxRecDepth 65536 in
set_option maxHeartbeats 40000000 in
theorem own_i_Target1 (l : Launch) (Z : State) (a0 : Array Value) (hw : ∀ d ∈ tables_1, d.before a0 Z = true) (ws : List Jvm.Cond) (a1 : Addr) (s1 : Addr) (s3 : Addr) (al : Addr) (u0 : Value) (u1 : Value) (u2 : Value) (u3 : Value) (h0 : Heap) (n0 : Nat) (Z0 : n0 ≤ h0.size) (hE_a1 : Exa Z h0 a1 "com/example/corbelpath/corbelpath/Deployment$Target") (hF_version_a1 : Fld Z h0 a1 "com/example/corbelpath/corbelpath/Deployment$Target" "version" "Ljava/lang/String;" u0) (hF_locale_a1 : Fld Z h0 a1 "com/example/corbelpath/corbelpath/Deployment$Target" "locale" "Ljava/lang/String;" u1) (hF_library_a1 : Fld Z h0 a1 "com/example/corbelpath/corbelpath/Deployment$Target" "library" "Ljava/lang/String;" u2) (hF_path_a1 : Fld Z h0 a1 "com/example/corbelpath/corbelpath/Deployment$Target" "path" "Ljava/util/List;" u3) (ge_a1 : n0 ≤ a1) :
    MetFree l (⟨"com/example/corbelpath/corbelpath/Deployment$Target", "<init>", "(Ljava/lang/String;Ljava/lang/String;Ljava/lang/String;Ljava/util/List;)V"⟩ : MethodName) (head1 (Jvm.Cond.code (⟨"com/example/corbelpath/corbelpath/Deployment$Target", "<init>", "(Ljava/lang/String;Ljava/lang/String;Ljava/lang/String;Ljava/util/List;)V"⟩ : MethodName) prog_27_method_1_code 5 none :: ws) ({ frames := 2, cells := 0, slots := 0, locals := 24 } : Room)) (fun a U => a = #[(.ref a1), (.ref s1), .null, (.ref s3), (.ref al)] ∧ Z.Warmed39 U.vm ∧ U.heap = h0) (fun _ _ _ _ _ => True) (fun _ U o U' => ∃ v L, o = .returned v ∧ own_i_Target1_Q Z a1 s1 s3 al u0 u1 u2 u3 h0 n0 v U'.heap L ∧ FrameEnd U o U' L ({ frames := 2, cells := 0, slots := 0, locals := 24 } : Room).cells ({ frames := 2, cells := 0, slots := 0, locals := 24 } : Room).slots) := by
  refine MetFree.of_bodySF (plainFor_of_name own_pn7) hisR ?_
  intro p e s m args below meth c s₁ Bd hml0 hP hK
  obtain ⟨rfl, hZ, hh⟩ := hP
  have hx := Bd.exec
  have hby := Bd.bytes
  have hlk : meth.locks = false := BodyLoose.notSynchronized Bd
  have hml : c.maxLocals = 5 := hml0
  have hown : s.vm.findClass "com/example/corbelpath/corbelpath/Deployment$Target" = some m.cls := findClass_of_methodNamed Bd.named
  have hnm := (name_of_methodNamed Bd.named Bd.method).1
  have X0 : Stand p l e ({ frames := 2, cells := 0, slots := 0, locals := 24 } : Room) s m #[(.ref a1), (.ref s1), .null, (.ref s3), (.ref al)] below meth c s₁ [] 0 0 := Stand.of_body Bd
  have e0 : s₁.heap = h0 := by rw [← hh, Bd.state]; rfl
  have N0 := Fr.nil n0
  refine own_start (QQ := own_i_Target1_Q Z a1 s1 s3 al u0 u1 u2 u3 h0 n0) (rc := ({ frames := 2, cells := 0, slots := 0, locals := 24 } : Room).cells) (rs := ({ frames := 2, cells := 0, slots := 0, locals := 24 } : Room).slots) (own_i_Target1_ef m a1 s1 s3 al ) ?_
  show own_G p.tables e below _ (s₁.setTop (mkF m 0 #[.val (.ref a1), .val (.ref s1), .val .null, .val (.ref s3), .val (.ref al)] []))
  refine own_fs (XS.aloadN X0.here hx rfl (hb hby own_d20_0) rfl rfl (Steps.refl _)) ?_
  show own_G p.tables e below _ (s₁.setTop (mkF m 1 #[.val (.ref a1), .val (.ref s1), .val .null, .val (.ref s3), .val (.ref al)] [(.ref a1)]))
  have Zs3 : n0 ≤ h0.size := Z0
  obtain ⟨_, _, ⟨T2, L2, k2, n2⟩, -, X2, ⟨Lc2, hQ2, l2, y2, z2⟩, st2⟩ := X0.specialBack hx (y := (⟨"java/lang/Record", "<init>", "()V"⟩ : MethodName)) rfl hown (mvT hZ (hw _ (List.mem_of_getElem? (i := 110) rfl))) (mvT hZ (hw _ (List.mem_of_getElem? (i := 111) rfl))) (mvT hZ (hw _ (List.mem_of_getElem? (i := 114) rfl))) (by decide) (backOf (W := 0) (own_i_Record l Z a0 hw [] a1 h0 n0 Zs3 ) hZ (hw _ (List.mem_of_getElem? (i := 114) rfl)) (hw _ (List.mem_of_getElem? (i := 113) rfl)) (by decide) (by decide)) (g := (mkF m 1 #[.val (.ref a1), .val (.ref s1), .val .null, .val (.ref s3), .val (.ref al)] [(.ref a1)])) rfl (by rw [hml]; rfl) (Steps.refl _) (a := a1) (argsL := []) (rest := []) (lenOf own_pd0 rfl) rfl (by show 2 * 0 + _ ≤ _; exact Nat.le_of_eq rfl) (hb hby own_d20_1) (fun _ _ => ⟨rfl, e0, (by decide : 0 + 0 ≤ _), (by decide : 0 + 0 ≤ _)⟩)
  dsimp only [Pt.U, Pt.locs, Pt.cells, Pt.slots] at X2 l2 y2 z2 st2 hQ2
  subst l2 y2 z2
  obtain ⟨rfl, Nq2, e2⟩ := hQ2
  have N2 := Fr.app N0 Nq2
  refine own_fs st2 ?_
  show own_G p.tables e below _ (T2.setTop (mkF m 4 #[.val (.ref a1), .val (.ref s1), .val .null, .val (.ref s3), .val (.ref al)] []))
  refine own_fs (XS.aloadN X2.here hx rfl (hb hby own_d20_4) rfl rfl (Steps.refl _)) ?_
  show own_G p.tables e below _ (T2.setTop (mkF m 5 #[.val (.ref a1), .val (.ref s1), .val .null, .val (.ref s3), .val (.ref al)] [(.ref a1)]))
  refine own_fs (XS.aloadN X2.here hx rfl (hb hby own_d20_5) rfl rfl (Steps.refl _)) ?_
  show own_G p.tables e below _ (T2.setTop (mkF m 6 #[.val (.ref a1), .val (.ref s1), .val .null, .val (.ref s3), .val (.ref al)] [(.ref s1), (.ref a1)]))
  obtain ⟨T4, h4, X4, e4, W4, st4⟩ := putF X2 hx hZ hown (host := "") (Or.inl (hw _ (List.mem_of_getElem? (i := 116) rfl))) Via.refl e2 hF_version_a1 hE_a1 (Or.inr ⟨(hw _ (List.mem_of_getElem? (i := 117) rfl)), rfl, hnm⟩) (hw _ (List.mem_of_getElem? (i := 105) rfl)) (ty := (.object "java/lang/String")) (by decide) rfl rfl (g := (mkF m 6 #[.val (.ref a1), .val (.ref s1), .val .null, .val (.ref s3), .val (.ref al)] [(.ref s1), (.ref a1)])) rfl rfl (hb hby own_d20_6)
  refine own_fs (st4 _ (Steps.refl _)) ?_
  have Fw4 := Fld.same W4 hF_version_a1
  have N4 := Fr.snoc X4 N2 ge_a1
  show own_G p.tables e below _ (T4.setTop (mkF m 9 #[.val (.ref a1), .val (.ref s1), .val .null, .val (.ref s3), .val (.ref al)] []))
  refine own_fs (XS.aloadN X4.here hx rfl (hb hby own_d20_9) rfl rfl (Steps.refl _)) ?_
  show own_G p.tables e below _ (T4.setTop (mkF m 10 #[.val (.ref a1), .val (.ref s1), .val .null, .val (.ref s3), .val (.ref al)] [(.ref a1)]))
  refine own_fs (XS.aloadN X4.here hx rfl (hb hby own_d20_10) rfl rfl (Steps.refl _)) ?_
  show own_G p.tables e below _ (T4.setTop (mkF m 11 #[.val (.ref a1), .val (.ref s1), .val .null, .val (.ref s3), .val (.ref al)] [.null, (.ref a1)]))
  obtain ⟨T5, h5, X5, e5, W5, st5⟩ := putF X4 hx hZ hown (host := "") (Or.inl (hw _ (List.mem_of_getElem? (i := 118) rfl))) Via.refl e4 (Fld.other W4 hF_locale_a1 (Or.inr (slot_ne (Or.inr (hw _ (List.mem_of_getElem? (i := 119) rfl))) (Or.inr (hw _ (List.mem_of_getElem? (i := 117) rfl))) (by decide) (t := (.object "java/lang/String")) (t' := (.object "java/lang/String")) (by decide) (by decide)))) (Exa.wr W4 hE_a1) (Or.inr ⟨(hw _ (List.mem_of_getElem? (i := 119) rfl)), rfl, hnm⟩) (hw _ (List.mem_of_getElem? (i := 105) rfl)) (ty := (.object "java/lang/String")) (by decide) rfl rfl (g := (mkF m 11 #[.val (.ref a1), .val (.ref s1), .val .null, .val (.ref s3), .val (.ref al)] [.null, (.ref a1)])) rfl rfl (hb hby own_d20_11)
  refine own_fs (st5 _ (Steps.refl _)) ?_
  have Fw5 := Fld.same W5 (Fld.other W4 hF_locale_a1 (Or.inr (slot_ne (Or.inr (hw _ (List.mem_of_getElem? (i := 119) rfl))) (Or.inr (hw _ (List.mem_of_getElem? (i := 117) rfl))) (by decide) (t := (.object "java/lang/String")) (t' := (.object "java/lang/String")) (by decide) (by decide))))
  have N5 := Fr.snoc X5 N4 ge_a1
  show own_G p.tables e below _ (T5.setTop (mkF m 14 #[.val (.ref a1), .val (.ref s1), .val .null, .val (.ref s3), .val (.ref al)] []))
  refine own_fs (XS.aloadN X5.here hx rfl (hb hby own_d20_14) rfl rfl (Steps.refl _)) ?_
  show own_G p.tables e below _ (T5.setTop (mkF m 15 #[.val (.ref a1), .val (.ref s1), .val .null, .val (.ref s3), .val (.ref al)] [(.ref a1)]))
  refine own_fs (XS.aloadN X5.here hx rfl (hb hby own_d20_15) rfl rfl (Steps.refl _)) ?_
  show own_G p.tables e below _ (T5.setTop (mkF m 16 #[.val (.ref a1), .val (.ref s1), .val .null, .val (.ref s3), .val (.ref al)] [(.ref s3), (.ref a1)]))
  obtain ⟨T6, h6, X6, e6, W6, st6⟩ := putF X5 hx hZ hown (host := "") (Or.inl (hw _ (List.mem_of_getElem? (i := 120) rfl))) Via.refl e5 (Fld.other W5 (Fld.other W4 hF_library_a1 (Or.inr (slot_ne (Or.inr (hw _ (List.mem_of_getElem? (i := 121) rfl))) (Or.inr (hw _ (List.mem_of_getElem? (i := 117) rfl))) (by decide) (t := (.object "java/lang/String")) (t' := (.object "java/lang/String")) (by decide) (by decide)))) (Or.inr (slot_ne (Or.inr (hw _ (List.mem_of_getElem? (i := 121) rfl))) (Or.inr (hw _ (List.mem_of_getElem? (i := 119) rfl))) (by decide) (t := (.object "java/lang/String")) (t' := (.object "java/lang/String")) (by decide) (by decide)))) (Exa.wr W5 (Exa.wr W4 hE_a1)) (Or.inr ⟨(hw _ (List.mem_of_getElem? (i := 121) rfl)), rfl, hnm⟩) (hw _ (List.mem_of_getElem? (i := 105) rfl)) (ty := (.object "java/lang/String")) (by decide) rfl rfl (g := (mkF m 16 #[.val (.ref a1), .val (.ref s1), .val .null, .val (.ref s3), .val (.ref al)] [(.ref s3), (.ref a1)])) rfl rfl (hb hby own_d20_16)
  refine own_fs (st6 _ (Steps.refl _)) ?_
  have Fw6 := Fld.same W6 (Fld.other W5 (Fld.other W4 hF_library_a1 (Or.inr (slot_ne (Or.inr (hw _ (List.mem_of_getElem? (i := 121) rfl))) (Or.inr (hw _ (List.mem_of_getElem? (i := 117) rfl))) (by decide) (t := (.object "java/lang/String")) (t' := (.object "java/lang/String")) (by decide) (by decide)))) (Or.inr (slot_ne (Or.inr (hw _ (List.mem_of_getElem? (i := 121) rfl))) (Or.inr (hw _ (List.mem_of_getElem? (i := 119) rfl))) (by decide) (t := (.object "java/lang/String")) (t' := (.object "java/lang/String")) (by decide) (by decide))))
  have N6 := Fr.snoc X6 N5 ge_a1
  show own_G p.tables e below _ (T6.setTop (mkF m 19 #[.val (.ref a1), .val (.ref s1), .val .null, .val (.ref s3), .val (.ref al)] []))
  refine own_fs (XS.aloadN X6.here hx rfl (hb hby own_d20_19) rfl rfl (Steps.refl _)) ?_
  show own_G p.tables e below _ (T6.setTop (mkF m 20 #[.val (.ref a1), .val (.ref s1), .val .null, .val (.ref s3), .val (.ref al)] [(.ref a1)]))
  refine own_fs (XS.aload X6.here hx rfl (hb hby own_d20_20) rfl rfl (Steps.refl _)) ?_
  show own_G p.tables e below _ (T6.setTop (mkF m 22 #[.val (.ref a1), .val (.ref s1), .val .null, .val (.ref s3), .val (.ref al)] [(.ref al), (.ref a1)]))
  obtain ⟨T7, h7, X7, e7, W7, st7⟩ := putF X6 hx hZ hown (host := "") (Or.inl (hw _ (List.mem_of_getElem? (i := 122) rfl))) Via.refl e6 (Fld.other W6 (Fld.other W5 (Fld.other W4 hF_path_a1 (Or.inr (slot_ne (Or.inr (hw _ (List.mem_of_getElem? (i := 123) rfl))) (Or.inr (hw _ (List.mem_of_getElem? (i := 117) rfl))) (by decide) (t := (.object "java/util/List")) (t' := (.object "java/lang/String")) (by decide) (by decide)))) (Or.inr (slot_ne (Or.inr (hw _ (List.mem_of_getElem? (i := 123) rfl))) (Or.inr (hw _ (List.mem_of_getElem? (i := 119) rfl))) (by decide) (t := (.object "java/util/List")) (t' := (.object "java/lang/String")) (by decide) (by decide)))) (Or.inr (slot_ne (Or.inr (hw _ (List.mem_of_getElem? (i := 123) rfl))) (Or.inr (hw _ (List.mem_of_getElem? (i := 121) rfl))) (by decide) (t := (.object "java/util/List")) (t' := (.object "java/lang/String")) (by decide) (by decide)))) (Exa.wr W6 (Exa.wr W5 (Exa.wr W4 hE_a1))) (Or.inr ⟨(hw _ (List.mem_of_getElem? (i := 123) rfl)), rfl, hnm⟩) (hw _ (List.mem_of_getElem? (i := 105) rfl)) (ty := (.object "java/util/List")) (by decide) rfl rfl (g := (mkF m 22 #[.val (.ref a1), .val (.ref s1), .val .null, .val (.ref s3), .val (.ref al)] [(.ref al), (.ref a1)])) rfl rfl (hb hby own_d20_22)
  refine own_fs (st7 _ (Steps.refl _)) ?_
  have Fw7 := Fld.same W7 (Fld.other W6 (Fld.other W5 (Fld.other W4 hF_path_a1 (Or.inr (slot_ne (Or.inr (hw _ (List.mem_of_getElem? (i := 123) rfl))) (Or.inr (hw _ (List.mem_of_getElem? (i := 117) rfl))) (by decide) (t := (.object "java/util/List")) (t' := (.object "java/lang/String")) (by decide) (by decide)))) (Or.inr (slot_ne (Or.inr (hw _ (List.mem_of_getElem? (i := 123) rfl))) (Or.inr (hw _ (List.mem_of_getElem? (i := 119) rfl))) (by decide) (t := (.object "java/util/List")) (t' := (.object "java/lang/String")) (by decide) (by decide)))) (Or.inr (slot_ne (Or.inr (hw _ (List.mem_of_getElem? (i := 123) rfl))) (Or.inr (hw _ (List.mem_of_getElem? (i := 121) rfl))) (by decide) (t := (.object "java/util/List")) (t' := (.object "java/lang/String")) (by decide) (by decide))))
  have N7 := Fr.snoc X7 N6 ge_a1
  show own_G p.tables e below _ (T7.setTop (mkF m 25 #[.val (.ref a1), .val (.ref s1), .val .null, .val (.ref s3), .val (.ref al)] []))
  exact own_retV X7 hx Bd.returns hlk (hb hby own_d20_25) (by decide) (by decide) e7 ⟨rfl, N7, (((((Keep.refl _ _).wr W4 (Or.inl (List.mem_of_getElem? (i := 0) rfl))).wr W5 (Or.inl (List.mem_of_getElem? (i := 0) rfl))).wr W6 (Or.inl (List.mem_of_getElem? (i := 0) rfl))).wr W7 (Or.inl (List.mem_of_getElem? (i := 0) rfl))), Fw7⟩
theorem own_pcheck_ef (m : MethodId) (x0 : Int32) (x1 : Int32) : entryFrame m #[(.int x0), (.int x1), .null] 3 = mkF m 0 #[.val (.int x0), .val (.int x1), .val .null] [] := by first | (simp [entryFrame, mkF, argsToLocals, Value.category]; done) | rfl
def own_pcheck_Q (Z : State) (p1 : Int32) (p2 : Int32) (h0 : Heap) (n0 : Nat) (v : Option Value) (h : Heap) (L : List Loc) : Prop := (v = some (.int p1) ∧ Fr n0 L ∧ h = h0)
set_option maxRecDepth 65536 in
set_option maxHeartbeats 40000000 in
theorem own_pcheck (l : Launch) (Z : State) (a0 : Array Value) (hw : ∀ d ∈ tables_1, d.before a0 Z = true) (ws : List Jvm.Cond) (p1 : Int32) (p2 : Int32) (h0 : Heap) (n0 : Nat) (Z0 : n0 ≤ h0.size) (hi0 : ¬ (p1 < (0 : Int32))) (hi1 : p1 < p2) :
    MetFree l (⟨"jdk/internal/util/Preconditions", "checkIndex", "(IILjava/util/function/BiFunction;)I"⟩ : MethodName) (head1 (Jvm.Cond.code (⟨"jdk/internal/util/Preconditions", "checkIndex", "(IILjava/util/function/BiFunction;)I"⟩ : MethodName) jdk_41_method_11_code 3 (some .int) :: ws) ({ frames := 0, cells := 0, slots := 0, locals := 0 } : Room)) (fun a U => a = #[(.int p1), (.int p2), .null] ∧ Z.Warmed39 U.vm ∧ U.heap = h0) (fun _ _ _ _ _ => True) (fun _ U o U' => ∃ v L, o = .returned v ∧ own_pcheck_Q Z p1 p2 h0 n0 v U'.heap L ∧ FrameEnd U o U' L ({ frames := 0, cells := 0, slots := 0, locals := 0 } : Room).cells ({ frames := 0, cells := 0, slots := 0, locals := 0 } : Room).slots) := by
  refine MetFree.of_bodySF (plainFor_of_name own_pn8) hisR ?_
  intro p e s m args below meth c s₁ Bd hml0 hP hK
  obtain ⟨rfl, hZ, hh⟩ := hP
  have hx := Bd.exec
  have hby := Bd.bytes
  have hlk : meth.locks = false := BodyLoose.notSynchronized Bd
  have hml : c.maxLocals = 3 := hml0
  have hown : s.vm.findClass "jdk/internal/util/Preconditions" = some m.cls := findClass_of_methodNamed Bd.named
  have hnm := (name_of_methodNamed Bd.named Bd.method).1
  have X0 : Stand p l e ({ frames := 0, cells := 0, slots := 0, locals := 0 } : Room) s m #[(.int p1), (.int p2), .null] below meth c s₁ [] 0 0 := Stand.of_body Bd
  have e0 : s₁.heap = h0 := by rw [← hh, Bd.state]; rfl
  have N0 := Fr.nil n0
  refine own_start (QQ := own_pcheck_Q Z p1 p2 h0 n0) (rc := ({ frames := 0, cells := 0, slots := 0, locals := 0 } : Room).cells) (rs := ({ frames := 0, cells := 0, slots := 0, locals := 0 } : Room).slots) (own_pcheck_ef m p1 p2 ) ?_
  show own_G p.tables e below _ (s₁.setTop (mkF m 0 #[.val (.int p1), .val (.int p2), .val .null] []))
  refine own_fs (XS.iloadN X0.here hx rfl (hb hby own_d26_0) rfl (Steps.refl _)) ?_
  show own_G p.tables e below _ (s₁.setTop (mkF m 1 #[.val (.int p1), .val (.int p2), .val .null] [(.int p1)]))
  refine own_fs (XS.ifNo X0.here hx rfl (hb hby own_d26_1) rfl (XT.i0_lt_f hi0) (Steps.refl _)) ?_
  show own_G p.tables e below _ (s₁.setTop (mkF m 4 #[.val (.int p1), .val (.int p2), .val .null] []))
  refine own_fs (XS.iloadN X0.here hx rfl (hb hby own_d26_4) rfl (Steps.refl _)) ?_
  show own_G p.tables e below _ (s₁.setTop (mkF m 5 #[.val (.int p1), .val (.int p2), .val .null] [(.int p1)]))
  refine own_fs (XS.iloadN X0.here hx rfl (hb hby own_d26_5) rfl (Steps.refl _)) ?_
  show own_G p.tables e below _ (s₁.setTop (mkF m 6 #[.val (.int p1), .val (.int p2), .val .null] [(.int p2), (.int p1)]))
  refine own_fs (XS.icmpYes X0.here hx rfl (pc0 := 6) (pc' := 16) rfl (hb hby own_d26_6) rfl (XT.ii_lt_t hi1) (by decide) (by decide) (Steps.refl _)) ?_
  show own_G p.tables e below _ (s₁.setTop (mkF m 16 #[.val (.int p1), .val (.int p2), .val .null] []))
  refine own_fs (XS.iloadN X0.here hx rfl (hb hby own_d26_16) rfl (Steps.refl _)) ?_
  show own_G p.tables e below _ (s₁.setTop (mkF m 17 #[.val (.int p1), .val (.int p2), .val .null] [(.int p1)]))
  exact own_retI X0 hx Bd.returns hlk (hb hby own_d26_17) (by decide) (by decide) e0 ⟨rfl, N0, rfl⟩
theorem own_ocheck_ef (m : MethodId) (x0 : Int32) (x1 : Int32) : entryFrame m #[(.int x0), (.int x1)] 2 = mkF m 0 #[.val (.int x0), .val (.int x1)] [] := by first | (simp [entryFrame, mkF, argsToLocals, Value.category]; done) | rfl
def own_ocheck_Q (Z : State) (p1 : Int32) (p2 : Int32) (h0 : Heap) (n0 : Nat) (v : Option Value) (h : Heap) (L : List Loc) : Prop := (v = some (.int p1) ∧ Fr n0 L ∧ h = h0)
set_option maxRecDepth 65536 in
set_option maxHeartbeats 40000000 in
theorem own_ocheck (l : Launch) (Z : State) (a0 : Array Value) (hw : ∀ d ∈ tables_1, d.before a0 Z = true) (ws : List Jvm.Cond) (p1 : Int32) (p2 : Int32) (h0 : Heap) (n0 : Nat) (Z0 : n0 ≤ h0.size) (hi0 : ¬ (p1 < (0 : Int32))) (hi1 : p1 < p2) :
    MetFree l (⟨"java/util/Objects", "checkIndex", "(II)I"⟩ : MethodName) (head1 (Jvm.Cond.code (⟨"java/util/Objects", "checkIndex", "(II)I"⟩ : MethodName) jdk_31_method_17_code 2 (some .int) :: ws) ({ frames := 1, cells := 0, slots := 0, locals := 14 } : Room)) (fun a U => a = #[(.int p1), (.int p2)] ∧ Z.Warmed39 U.vm ∧ U.heap = h0) (fun _ _ _ _ _ => True) (fun _ U o U' => ∃ v L, o = .returned v ∧ own_ocheck_Q Z p1 p2 h0 n0 v U'.heap L ∧ FrameEnd U o U' L ({ frames := 1, cells := 0, slots := 0, locals := 14 } : Room).cells ({ frames := 1, cells := 0, slots := 0, locals := 14 } : Room).slots) := by
  refine MetFree.of_bodySF (plainFor_of_name own_pn9) hisR ?_
  intro p e s m args below meth c s₁ Bd hml0 hP hK
  obtain ⟨rfl, hZ, hh⟩ := hP
  have hx := Bd.exec
  have hby := Bd.bytes
  have hlk : meth.locks = false := BodyLoose.notSynchronized Bd
  have hml : c.maxLocals = 2 := hml0
  have hown : s.vm.findClass "java/util/Objects" = some m.cls := findClass_of_methodNamed Bd.named
  have hnm := (name_of_methodNamed Bd.named Bd.method).1
  have X0 : Stand p l e ({ frames := 1, cells := 0, slots := 0, locals := 14 } : Room) s m #[(.int p1), (.int p2)] below meth c s₁ [] 0 0 := Stand.of_body Bd
  have e0 : s₁.heap = h0 := by rw [← hh, Bd.state]; rfl
  have N0 := Fr.nil n0
  refine own_start (QQ := own_ocheck_Q Z p1 p2 h0 n0) (rc := ({ frames := 1, cells := 0, slots := 0, locals := 14 } : Room).cells) (rs := ({ frames := 1, cells := 0, slots := 0, locals := 14 } : Room).slots) (own_ocheck_ef m p1 p2 ) ?_
  show own_G p.tables e below _ (s₁.setTop (mkF m 0 #[.val (.int p1), .val (.int p2)] []))
  refine own_fs (XS.iloadN X0.here hx rfl (hb hby own_d25_0) rfl (Steps.refl _)) ?_
  show own_G p.tables e below _ (s₁.setTop (mkF m 1 #[.val (.int p1), .val (.int p2)] [(.int p1)]))
  refine own_fs (XS.iloadN X0.here hx rfl (hb hby own_d25_1) rfl (Steps.refl _)) ?_
  show own_G p.tables e below _ (s₁.setTop (mkF m 2 #[.val (.int p1), .val (.int p2)] [(.int p2), (.int p1)]))
  refine own_fs (XS.aconstNull X0.here hx rfl (hb hby own_d25_2) (Steps.refl _)) ?_
  show own_G p.tables e below _ (s₁.setTop (mkF m 3 #[.val (.int p1), .val (.int p2)] [.null, (.int p2), (.int p1)]))
  have Zs3 : n0 ≤ h0.size := Z0
  obtain ⟨_, _, ⟨T2, L2, k2, n2⟩, -, X2, ⟨Lc2, hQ2, l2, y2, z2⟩, st2⟩ := Jvm.LawKit.callS X0 hx (y := (⟨"jdk/internal/util/Preconditions", "checkIndex", "(IILjava/util/function/BiFunction;)I"⟩ : MethodName)) hown (mvT hZ (hw _ (List.mem_of_getElem? (i := 150) rfl))) (mvT hZ (hw _ (List.mem_of_getElem? (i := 151) rfl))) (mvT hZ (hw _ (List.mem_of_getElem? (i := 152) rfl))) (mvT hZ (hw _ (List.mem_of_getElem? (i := 153) rfl))) (by decide) (backOf (W := 0) (own_pcheck l Z a0 hw [] p1 p2 h0 n0 Zs3 hi0 hi1) hZ (hw _ (List.mem_of_getElem? (i := 153) rfl)) (hw _ (List.mem_of_getElem? (i := 152) rfl)) (by decide) (by decide)) (g := (mkF m 3 #[.val (.int p1), .val (.int p2)] [.null, (.int p2), (.int p1)])) rfl (by rw [hml]; rfl) (argsL := [(.int p1), (.int p2), .null]) (rest := []) (lenOf own_pd9 rfl) rfl (by show 2 * 0 + _ ≤ _; exact Nat.le_of_eq rfl) (hb hby own_d25_3) (fun _ _ => ⟨rfl, e0, (by decide : 0 + 0 ≤ _), (by decide : 0 + 0 ≤ _)⟩)
  dsimp only [Pt.U, Pt.locs, Pt.cells, Pt.slots] at X2 l2 y2 z2 st2 hQ2
  subst l2 y2 z2
  obtain ⟨rfl, Nq2, e2⟩ := hQ2
  have N2 := Fr.app N0 Nq2
  refine own_fs (st2 _ (Steps.refl _)) ?_
  show own_G p.tables e below _ (T2.setTop (mkF m 6 #[.val (.int p1), .val (.int p2)] [(.int p1)]))
  exact own_retI X2 hx Bd.returns hlk (hb hby own_d25_6) (by decide) (by decide) e2 ⟨rfl, N2, rfl⟩
theorem own_alsize_ef (m : MethodId) (x0 : Addr) : entryFrame m #[(.ref x0)] 1 = mkF m 0 #[.val (.ref x0)] [] := by first | (simp [entryFrame, mkF, argsToLocals, Value.category]; done) | rfl
def own_alsize_Q (Z : State) (a1 : Addr) (p1 : Int32) (h0 : Heap) (n0 : Nat) (v : Option Value) (h : Heap) (L : List Loc) : Prop := (v = some (.int p1) ∧ Fr n0 L ∧ h = h0)
set_option maxRecDepth 65536 in
set_option maxHeartbeats 40000000 in
theorem own_alsize (l : Launch) (Z : State) (a0 : Array Value) (hw : ∀ d ∈ tables_1, d.before a0 Z = true) (ws : List Jvm.Cond) (a1 : Addr) (p1 : Int32) (h0 : Heap) (n0 : Nat) (Z0 : n0 ≤ h0.size) (hF_size_a1 : Fld Z h0 a1 "java/util/ArrayList" "size" "I" (.int p1)) :
    MetFree l (⟨"java/util/ArrayList", "size", "()I"⟩ : MethodName) (head1 (Jvm.Cond.code (⟨"java/util/ArrayList", "size", "()I"⟩ : MethodName) jdk_38_method_8_code 1 (some .int) :: ws) ({ frames := 0, cells := 0, slots := 0, locals := 0 } : Room)) (fun a U => a = #[(.ref a1)] ∧ Z.Warmed39 U.vm ∧ U.heap = h0) (fun _ _ _ _ _ => True) (fun _ U o U' => ∃ v L, o = .returned v ∧ own_alsize_Q Z a1 p1 h0 n0 v U'.heap L ∧ FrameEnd U o U' L ({ frames := 0, cells := 0, slots := 0, locals := 0 } : Room).cells ({ frames := 0, cells := 0, slots := 0, locals := 0 } : Room).slots) := by
  refine MetFree.of_bodySF (plainFor_of_name own_pn2) hisR ?_
  intro p e s m args below meth c s₁ Bd hml0 hP hK
  obtain ⟨rfl, hZ, hh⟩ := hP
  have hx := Bd.exec
  have hby := Bd.bytes
  have hlk : meth.locks = false := BodyLoose.notSynchronized Bd
  have hml : c.maxLocals = 1 := hml0
  have hown : s.vm.findClass "java/util/ArrayList" = some m.cls := findClass_of_methodNamed Bd.named
  have hnm := (name_of_methodNamed Bd.named Bd.method).1
  have X0 : Stand p l e ({ frames := 0, cells := 0, slots := 0, locals := 0 } : Room) s m #[(.ref a1)] below meth c s₁ [] 0 0 := Stand.of_body Bd
  have e0 : s₁.heap = h0 := by rw [← hh, Bd.state]; rfl
  have N0 := Fr.nil n0
  refine own_start (QQ := own_alsize_Q Z a1 p1 h0 n0) (rc := ({ frames := 0, cells := 0, slots := 0, locals := 0 } : Room).cells) (rs := ({ frames := 0, cells := 0, slots := 0, locals := 0 } : Room).slots) (own_alsize_ef m a1 ) ?_
  show own_G p.tables e below _ (s₁.setTop (mkF m 0 #[.val (.ref a1)] []))
  refine own_fs (XS.aloadN X0.here hx rfl (hb hby own_d23_0) rfl rfl (Steps.refl _)) ?_
  show own_G p.tables e below _ (s₁.setTop (mkF m 1 #[.val (.ref a1)] [(.ref a1)]))
  obtain ⟨T1, X1, e1, st1⟩ := getF X0 hx hZ hown (host := "") (Or.inl (hw _ (List.mem_of_getElem? (i := 66) rfl))) Via.refl e0 hF_size_a1 (g := (mkF m 1 #[.val (.ref a1)] [(.ref a1)])) rfl rfl (hb hby own_d23_1)
  refine own_fs (st1 _ (Steps.refl _)) ?_
  show own_G p.tables e below _ (T1.setTop (mkF m 4 #[.val (.ref a1)] [(.int p1)]))
  exact own_retI X1 hx Bd.returns hlk (hb hby own_d23_4) (by decide) (by decide) e1 ⟨rfl, N0, rfl⟩
theorem own_aled1_ef (m : MethodId) (x0 : Addr) (x1 : Int32) : entryFrame m #[(.ref x0), (.int x1)] 2 = mkF m 0 #[.val (.ref x0), .val (.int x1)] [] := by first | (simp [entryFrame, mkF, argsToLocals, Value.category]; done) | rfl
def own_aled1_Q (Z : State) (a1 : Addr) (el0 : Addr) (d1 : Addr) (kd : ClassId) (h0 : Heap) (n0 : Nat) (v : Option Value) (h : Heap) (L : List Loc) : Prop := (v = some (.ref el0) ∧ Fr n0 L ∧ h = h0)
set_option maxRecDepth 65536 in
set_option maxHeartbeats 40000000 in
theorem own_aled1 (l : Launch) (Z : State) (a0 : Array Value) (hw : ∀ d ∈ tables_1, d.before a0 Z = true) (ws : List Jvm.Cond) (a1 : Addr) (el0 : Addr) (d1 : Addr) (kd : ClassId) (h0 : Heap) (n0 : Nat) (Z0 : n0 ≤ h0.size) (hF_elementData_a1 : Fld Z h0 a1 "java/util/ArrayList" "elementData" "[Ljava/lang/Object;" (.ref d1)) (hV_d1 : Arv Z h0 d1 kd (.object "java/lang/Object") (10 : Int32) [(.ref el0), .null, .null, .null, .null, .null, .null, .null, .null, .null] .null) :
    MetFree l (⟨"java/util/ArrayList", "elementData", "(I)Ljava/lang/Object;"⟩ : MethodName) (head1 (Jvm.Cond.code (⟨"java/util/ArrayList", "elementData", "(I)Ljava/lang/Object;"⟩ : MethodName) jdk_38_method_18_code 2 (some (.object "java/lang/Object")) :: ws) ({ frames := 0, cells := 0, slots := 0, locals := 0 } : Room)) (fun a U => a = #[(.ref a1), (.int (0 : Int32))] ∧ Z.Warmed39 U.vm ∧ U.heap = h0) (fun _ _ _ _ _ => True) (fun _ U o U' => ∃ v L, o = .returned v ∧ own_aled1_Q Z a1 el0 d1 kd h0 n0 v U'.heap L ∧ FrameEnd U o U' L ({ frames := 0, cells := 0, slots := 0, locals := 0 } : Room).cells ({ frames := 0, cells := 0, slots := 0, locals := 0 } : Room).slots) := by
  refine MetFree.of_bodySF (plainFor_of_name own_pn2) hisR ?_
  intro p e s m args below meth c s₁ Bd hml0 hP hK
  obtain ⟨rfl, hZ, hh⟩ := hP
  have hx := Bd.exec
  have hby := Bd.bytes
  have hlk : meth.locks = false := BodyLoose.notSynchronized Bd
  have hml : c.maxLocals = 2 := hml0
  have hown : s.vm.findClass "java/util/ArrayList" = some m.cls := findClass_of_methodNamed Bd.named
  have hnm := (name_of_methodNamed Bd.named Bd.method).1
  have X0 : Stand p l e ({ frames := 0, cells := 0, slots := 0, locals := 0 } : Room) s m #[(.ref a1), (.int (0 : Int32))] below meth c s₁ [] 0 0 := Stand.of_body Bd
  have e0 : s₁.heap = h0 := by rw [← hh, Bd.state]; rfl
  have N0 := Fr.nil n0
  refine own_start (QQ := own_aled1_Q Z a1 el0 d1 kd h0 n0) (rc := ({ frames := 0, cells := 0, slots := 0, locals := 0 } : Room).cells) (rs := ({ frames := 0, cells := 0, slots := 0, locals := 0 } : Room).slots) (own_aled1_ef m a1 (0 : Int32) ) ?_
  show own_G p.tables e below _ (s₁.setTop (mkF m 0 #[.val (.ref a1), .val (.int (0 : Int32))] []))
  refine own_fs (XS.aloadN X0.here hx rfl (hb hby own_d27_0) rfl rfl (Steps.refl _)) ?_
  show own_G p.tables e below _ (s₁.setTop (mkF m 1 #[.val (.ref a1), .val (.int (0 : Int32))] [(.ref a1)]))
  obtain ⟨T1, X1, e1, st1⟩ := getF X0 hx hZ hown (host := "") (Or.inl (hw _ (List.mem_of_getElem? (i := 57) rfl))) Via.refl e0 hF_elementData_a1 (g := (mkF m 1 #[.val (.ref a1), .val (.int (0 : Int32))] [(.ref a1)])) rfl rfl (hb hby own_d27_1)
  refine own_fs (st1 _ (Steps.refl _)) ?_
  show own_G p.tables e below _ (T1.setTop (mkF m 4 #[.val (.ref a1), .val (.int (0 : Int32))] [(.ref d1)]))
  refine own_fs (XS.iloadN X1.here hx rfl (hb hby own_d27_4) rfl (Steps.refl _)) ?_
  show own_G p.tables e below _ (T1.setTop (mkF m 5 #[.val (.ref a1), .val (.int (0 : Int32))] [(.int (0 : Int32)), (.ref d1)]))
  obtain ⟨cl2, Ar2, q2, S2, O2, H2, G2⟩ := (id hV_d1)
  have hin2 : ¬ ((0 : Int32) < 0 ∨ cl2.slots.size ≤ ((0 : Int32)).toNatClampNeg) := inb_of S2 ⟨by decide, by decide⟩
  have hat2 : cl2.slots[((0 : Int32)).toNatClampNeg]? = some (.ref el0) := Has.at H2 hin2 rfl
  refine own_fs (X1.aaload hx (j := (0 : Int32)) (v := (.ref el0)) (by rw [e1]; exact Ar2.1) (State.isArrayOf_alike hZ.alike Ar2.2.1) rfl Ar2.2.2 hin2 hat2 (g := (mkF m 5 #[.val (.ref a1), .val (.int (0 : Int32))] [(.int (0 : Int32)), (.ref d1)])) rfl rfl (hb hby own_d27_5) _ (Steps.refl _)) ?_
  show own_G p.tables e below _ (T1.setTop (mkF m 6 #[.val (.ref a1), .val (.int (0 : Int32))] [(.ref el0)]))
  exact own_retA X1 hx (t := (.object "java/lang/Object")) Bd.returns hlk rfl rfl (hb hby own_d27_6) (by decide) (by decide) e1 ⟨rfl, N0, rfl⟩
theorem own_alget1_ef (m : MethodId) (x0 : Addr) (x1 : Int32) : entryFrame m #[(.ref x0), (.int x1)] 2 = mkF m 0 #[.val (.ref x0), .val (.int x1)] [] := by first | (simp [entryFrame, mkF, argsToLocals, Value.category]; done) | rfl
def own_alget1_Q (Z : State) (a1 : Addr) (el0 : Addr) (d1 : Addr) (kd : ClassId) (h0 : Heap) (n0 : Nat) (v : Option Value) (h : Heap) (L : List Loc) : Prop := (v = some (.ref el0) ∧ Fr n0 L ∧ h = h0)
set_option maxRecDepth 65536 in
set_option maxHeartbeats 40000000 in
theorem own_alget1 (l : Launch) (Z : State) (a0 : Array Value) (hw : ∀ d ∈ tables_1, d.before a0 Z = true) (ws : List Jvm.Cond) (a1 : Addr) (el0 : Addr) (d1 : Addr) (kd : ClassId) (h0 : Heap) (n0 : Nat) (Z0 : n0 ≤ h0.size) (hE_a1 : Exa Z h0 a1 "java/util/ArrayList") (hF_size_a1 : Fld Z h0 a1 "java/util/ArrayList" "size" "I" (.int (1 : Int32))) (hF_elementData_a1 : Fld Z h0 a1 "java/util/ArrayList" "elementData" "[Ljava/lang/Object;" (.ref d1)) (hV_d1 : Arv Z h0 d1 kd (.object "java/lang/Object") (10 : Int32) [(.ref el0), .null, .null, .null, .null, .null, .null, .null, .null, .null] .null) :
    MetFree l (⟨"java/util/ArrayList", "get", "(I)Ljava/lang/Object;"⟩ : MethodName) (head1 (Jvm.Cond.code (⟨"java/util/ArrayList", "get", "(I)Ljava/lang/Object;"⟩ : MethodName) jdk_38_method_20_code 2 (some (.object "java/lang/Object")) :: ws) ({ frames := 2, cells := 0, slots := 0, locals := 27 } : Room)) (fun a U => a = #[(.ref a1), (.int (0 : Int32))] ∧ Z.Warmed39 U.vm ∧ U.heap = h0) (fun _ _ _ _ _ => True) (fun _ U o U' => ∃ v L, o = .returned v ∧ own_alget1_Q Z a1 el0 d1 kd h0 n0 v U'.heap L ∧ FrameEnd U o U' L ({ frames := 2, cells := 0, slots := 0, locals := 27 } : Room).cells ({ frames := 2, cells := 0, slots := 0, locals := 27 } : Room).slots) := by
  refine MetFree.of_bodySF (plainFor_of_name own_pn2) hisR ?_
  intro p e s m args below meth c s₁ Bd hml0 hP hK
  obtain ⟨rfl, hZ, hh⟩ := hP
  have hx := Bd.exec
  have hby := Bd.bytes
  have hlk : meth.locks = false := BodyLoose.notSynchronized Bd
  have hml : c.maxLocals = 2 := hml0
  have hown : s.vm.findClass "java/util/ArrayList" = some m.cls := findClass_of_methodNamed Bd.named
  have hnm := (name_of_methodNamed Bd.named Bd.method).1
  have X0 : Stand p l e ({ frames := 2, cells := 0, slots := 0, locals := 27 } : Room) s m #[(.ref a1), (.int (0 : Int32))] below meth c s₁ [] 0 0 := Stand.of_body Bd
  have e0 : s₁.heap = h0 := by rw [← hh, Bd.state]; rfl
  have N0 := Fr.nil n0
  refine own_start (QQ := own_alget1_Q Z a1 el0 d1 kd h0 n0) (rc := ({ frames := 2, cells := 0, slots := 0, locals := 27 } : Room).cells) (rs := ({ frames := 2, cells := 0, slots := 0, locals := 27 } : Room).slots) (own_alget1_ef m a1 (0 : Int32) ) ?_
  show own_G p.tables e below _ (s₁.setTop (mkF m 0 #[.val (.ref a1), .val (.int (0 : Int32))] []))
  refine own_fs (XS.iloadN X0.here hx rfl (hb hby own_d24_0) rfl (Steps.refl _)) ?_
  show own_G p.tables e below _ (s₁.setTop (mkF m 1 #[.val (.ref a1), .val (.int (0 : Int32))] [(.int (0 : Int32))]))
  refine own_fs (XS.aloadN X0.here hx rfl (hb hby own_d24_1) rfl rfl (Steps.refl _)) ?_
  show own_G p.tables e below _ (s₁.setTop (mkF m 2 #[.val (.ref a1), .val (.int (0 : Int32))] [(.ref a1), (.int (0 : Int32))]))
  obtain ⟨T1, X1, e1, st1⟩ := getF X0 hx hZ hown (host := "") (Or.inl (hw _ (List.mem_of_getElem? (i := 66) rfl))) Via.refl e0 hF_size_a1 (g := (mkF m 2 #[.val (.ref a1), .val (.int (0 : Int32))] [(.ref a1), (.int (0 : Int32))])) rfl rfl (hb hby own_d24_2)
  refine own_fs (st1 _ (Steps.refl _)) ?_
  show own_G p.tables e below _ (T1.setTop (mkF m 5 #[.val (.ref a1), .val (.int (0 : Int32))] [(.int (1 : Int32)), (.int (0 : Int32))]))
  have Zs4 : n0 ≤ h0.size := Z0
  obtain ⟨_, _, ⟨T3, L3, k3, n3⟩, -, X3, ⟨Lc3, hQ3, l3, y3, z3⟩, st3⟩ := Jvm.LawKit.callS X1 hx (y := (⟨"java/util/Objects", "checkIndex", "(II)I"⟩ : MethodName)) hown (mvT hZ (hw _ (List.mem_of_getElem? (i := 146) rfl))) (mvT hZ (hw _ (List.mem_of_getElem? (i := 147) rfl))) (mvT hZ (hw _ (List.mem_of_getElem? (i := 148) rfl))) (mvT hZ (hw _ (List.mem_of_getElem? (i := 149) rfl))) (by decide) (backOf (W := 0) (own_ocheck l Z a0 hw [] (0 : Int32) (1 : Int32) h0 n0 Zs4 (by decide) (by decide)) hZ (hw _ (List.mem_of_getElem? (i := 149) rfl)) (hw _ (List.mem_of_getElem? (i := 148) rfl)) (by decide) (by decide)) (g := (mkF m 5 #[.val (.ref a1), .val (.int (0 : Int32))] [(.int (1 : Int32)), (.int (0 : Int32))])) rfl (by rw [hml]; rfl) (argsL := [(.int (0 : Int32)), (.int (1 : Int32))]) (rest := []) (lenOf own_pd1 rfl) rfl (by show 2 * 0 + _ ≤ _; exact Nat.le_of_eq rfl) (hb hby own_d24_5) (fun _ _ => ⟨rfl, e1, (by decide : 0 + 0 ≤ _), (by decide : 0 + 0 ≤ _)⟩)
  dsimp only [Pt.U, Pt.locs, Pt.cells, Pt.slots] at X3 l3 y3 z3 st3 hQ3
  subst l3 y3 z3
  obtain ⟨rfl, Nq3, e3⟩ := hQ3
  have N3 := Fr.app N0 Nq3
  refine own_fs (st3 _ (Steps.refl _)) ?_
  show own_G p.tables e below _ (T3.setTop (mkF m 8 #[.val (.ref a1), .val (.int (0 : Int32))] [(.int (0 : Int32))]))
  refine own_fs (XS.pop X3.here hx rfl (hb hby own_d24_8) rfl rfl (Steps.refl _)) ?_
  show own_G p.tables e below _ (T3.setTop (mkF m 9 #[.val (.ref a1), .val (.int (0 : Int32))] []))
  refine own_fs (XS.aloadN X3.here hx rfl (hb hby own_d24_9) rfl rfl (Steps.refl _)) ?_
  show own_G p.tables e below _ (T3.setTop (mkF m 10 #[.val (.ref a1), .val (.int (0 : Int32))] [(.ref a1)]))
  refine own_fs (XS.iloadN X3.here hx rfl (hb hby own_d24_10) rfl (Steps.refl _)) ?_
  show own_G p.tables e below _ (T3.setTop (mkF m 11 #[.val (.ref a1), .val (.int (0 : Int32))] [(.int (0 : Int32)), (.ref a1)]))
  have Zs7 : n0 ≤ h0.size := Z0
  obtain ⟨cq6, kq6, q6a, q6b, q6c⟩ := isOf hZ e3 hE_a1
  obtain ⟨_, _, ⟨T6, L6, k6, n6⟩, -, X6, ⟨Lc6, hQ6, l6, y6, z6⟩, st6⟩ := X3.virtualBack hx (y := (⟨"java/util/ArrayList", "elementData", "(I)Ljava/lang/Object;"⟩ : MethodName)) (z := (⟨"java/util/ArrayList", "elementData", "(I)Ljava/lang/Object;"⟩ : MethodName)) hown (mvT hZ (hw _ (List.mem_of_getElem? (i := 154) rfl))) (mvT hZ (hw _ (List.mem_of_getElem? (i := 155) rfl))) (notFace_of_selects (args := #[]) (mvT hZ (hw _ (List.mem_of_getElem? (i := 157) rfl)))) (mvT hZ (hw _ (List.mem_of_getElem? (i := 157) rfl))) (mvT hZ (hw _ (List.mem_of_getElem? (i := 156) rfl))) (by decide) (backOf (W := 0) (own_aled1 l Z a0 hw [] a1 el0 d1 kd h0 n0 Zs7 hF_elementData_a1 hV_d1) hZ (hw _ (List.mem_of_getElem? (i := 158) rfl)) (hw _ (List.mem_of_getElem? (i := 37) rfl)) (by decide) (by decide)) q6a q6c (g := (mkF m 11 #[.val (.ref a1), .val (.int (0 : Int32))] [(.int (0 : Int32)), (.ref a1)])) rfl (by rw [hml]; rfl) (Steps.refl _) (argsL := [(.int (0 : Int32))]) (rest := []) (lenOf own_pd10 rfl) rfl (by show 2 * 0 + _ ≤ _; exact Nat.le_of_eq rfl) (hb hby own_d24_11) (fun _ _ => ⟨rfl, e3, (by decide : 0 + 0 ≤ _), (by decide : 0 + 0 ≤ _)⟩)
  dsimp only [Pt.U, Pt.locs, Pt.cells, Pt.slots] at X6 l6 y6 z6 st6 hQ6
  subst l6 y6 z6
  obtain ⟨rfl, Nq6, e6⟩ := hQ6
  have N6 := Fr.app N3 Nq6
  refine own_fs st6 ?_
  show own_G p.tables e below _ (T6.setTop (mkF m 14 #[.val (.ref a1), .val (.int (0 : Int32))] [(.ref el0)]))
  exact own_retA X6 hx (t := (.object "java/lang/Object")) Bd.returns hlk rfl rfl (hb hby own_d24_14) (by decide) (by decide) e6 ⟨rfl, N6, rfl⟩
theorem own_fname1_ef (m : MethodId) (x0 : Addr) : entryFrame m #[(.ref x0)] 1 = mkF m 0 #[.val (.ref x0)] [] := by first | (simp [entryFrame, mkF, argsToLocals, Value.category]; done) | rfl
def own_fname1_Q (Z : State) (a1 : Addr) (al : Addr) (el0 : Addr) (d1 : Addr) (kd : ClassId) (h0 : Heap) (n0 : Nat) (v : Option Value) (h : Heap) (L : List Loc) : Prop := (v = some (.ref el0) ∧ Fr n0 L ∧ h = h0)
set_option maxRecDepth 65536 in
set_option maxHeartbeats 40000000 in
theorem own_fname1 (l : Launch) (Z : State) (a0 : Array Value) (hw : ∀ d ∈ tables_1, d.before a0 Z = true) (ws : List Jvm.Cond) (a1 : Addr) (al : Addr) (el0 : Addr) (d1 : Addr) (kd : ClassId) (h0 : Heap) (n0 : Nat) (Z0 : n0 ≤ h0.size) (hF_path_a1 : Fld Z h0 a1 "com/example/corbelpath/corbelpath/Deployment$Target" "path" "Ljava/util/List;" (.ref al)) (hE_al : Exa Z h0 al "java/util/ArrayList") (hF_size_al : Fld Z h0 al "java/util/ArrayList" "size" "I" (.int (1 : Int32))) (hF_elementData_al : Fld Z h0 al "java/util/ArrayList" "elementData" "[Ljava/lang/Object;" (.ref d1)) (hV_d1 : Arv Z h0 d1 kd (.object "java/lang/Object") (10 : Int32) [(.ref el0), .null, .null, .null, .null, .null, .null, .null, .null, .null] .null) (hE_el0 : Exa Z h0 el0 "java/lang/String") :
    MetFree l (⟨"com/example/corbelpath/corbelpath/Deployment$Target", "fileName", "()Ljava/lang/String;"⟩ : MethodName) (head1 (Jvm.Cond.code (⟨"com/example/corbelpath/corbelpath/Deployment$Target", "fileName", "()Ljava/lang/String;"⟩ : MethodName) prog_27_method_4_code 1 (some (.object "java/lang/String")) :: ws) ({ frames := 3, cells := 0, slots := 0, locals := 40 } : Room)) (fun a U => a = #[(.ref a1)] ∧ Z.Warmed39 U.vm ∧ U.heap = h0) (fun _ _ _ _ _ => True) (fun _ U o U' => ∃ v L, o = .returned v ∧ own_fname1_Q Z a1 al el0 d1 kd h0 n0 v U'.heap L ∧ FrameEnd U o U' L ({ frames := 3, cells := 0, slots := 0, locals := 40 } : Room).cells ({ frames := 3, cells := 0, slots := 0, locals := 40 } : Room).slots) := by
  refine MetFree.of_bodySF (plainFor_of_name own_pn7) hisR ?_
  intro p e s m args below meth c s₁ Bd hml0 hP hK
  obtain ⟨rfl, hZ, hh⟩ := hP
  have hx := Bd.exec
  have hby := Bd.bytes
  have hlk : meth.locks = false := BodyLoose.notSynchronized Bd
  have hml : c.maxLocals = 1 := hml0
  have hown : s.vm.findClass "com/example/corbelpath/corbelpath/Deployment$Target" = some m.cls := findClass_of_methodNamed Bd.named
  have hnm := (name_of_methodNamed Bd.named Bd.method).1
  have X0 : Stand p l e ({ frames := 3, cells := 0, slots := 0, locals := 40 } : Room) s m #[(.ref a1)] below meth c s₁ [] 0 0 := Stand.of_body Bd
  have e0 : s₁.heap = h0 := by rw [← hh, Bd.state]; rfl
  have N0 := Fr.nil n0
  refine own_start (QQ := own_fname1_Q Z a1 al el0 d1 kd h0 n0) (rc := ({ frames := 3, cells := 0, slots := 0, locals := 40 } : Room).cells) (rs := ({ frames := 3, cells := 0, slots := 0, locals := 40 } : Room).slots) (own_fname1_ef m a1 ) ?_
  show own_G p.tables e below _ (s₁.setTop (mkF m 0 #[.val (.ref a1)] []))
  refine own_fs (XS.aloadN X0.here hx rfl (hb hby own_d22_0) rfl rfl (Steps.refl _)) ?_
  show own_G p.tables e below _ (s₁.setTop (mkF m 1 #[.val (.ref a1)] [(.ref a1)]))
  obtain ⟨T1, X1, e1, st1⟩ := getF X0 hx hZ hown (host := "") (Or.inl (hw _ (List.mem_of_getElem? (i := 122) rfl))) Via.refl e0 hF_path_a1 (g := (mkF m 1 #[.val (.ref a1)] [(.ref a1)])) rfl rfl (hb hby own_d22_1)
  refine own_fs (st1 _ (Steps.refl _)) ?_
  show own_G p.tables e below _ (T1.setTop (mkF m 4 #[.val (.ref a1)] [(.ref al)]))
  refine own_fs (XS.aloadN X1.here hx rfl (hb hby own_d22_4) rfl rfl (Steps.refl _)) ?_
  show own_G p.tables e below _ (T1.setTop (mkF m 5 #[.val (.ref a1)] [(.ref a1), (.ref al)]))
  obtain ⟨T2, X2, e2, st2⟩ := getF X1 hx hZ hown (host := "") (Or.inl (hw _ (List.mem_of_getElem? (i := 122) rfl))) Via.refl e1 hF_path_a1 (g := (mkF m 5 #[.val (.ref a1)] [(.ref a1), (.ref al)])) rfl rfl (hb hby own_d22_5)
  refine own_fs (st2 _ (Steps.refl _)) ?_
  show own_G p.tables e below _ (T2.setTop (mkF m 8 #[.val (.ref a1)] [(.ref al), (.ref al)]))
  have Zs5 : n0 ≤ h0.size := Z0
  obtain ⟨cq4, kq4, q4a, q4b, q4c⟩ := isOf hZ e2 hE_al
  obtain ⟨_, _, ⟨T4, L4, k4, n4⟩, -, X4, ⟨Lc4, hQ4, l4, y4, z4⟩, st4⟩ := X2.interfaceBack hx (xi := (⟨"java/util/List", "size", "()I"⟩ : MethodName)) (y := (⟨"java/util/ArrayList", "size", "()I"⟩ : MethodName)) hown (mvT hZ (hw _ (List.mem_of_getElem? (i := 129) rfl))) (mvT hZ (hw _ (List.mem_of_getElem? (i := 130) rfl))) (mvT hZ (hw _ (List.mem_of_getElem? (i := 131) rfl))) (mvT hZ (hw _ (List.mem_of_getElem? (i := 132) rfl))) (mvT hZ (hw _ (List.mem_of_getElem? (i := 133) rfl))) (mvT hZ (hw _ (List.mem_of_getElem? (i := 134) rfl))) (mvT hZ (hw _ (List.mem_of_getElem? (i := 135) rfl))) (mvT hZ (hw _ (List.mem_of_getElem? (i := 136) rfl))) (by decide) (backOf (W := 1) (own_alsize l Z a0 hw [] al (1 : Int32) h0 n0 Zs5 hF_size_al) hZ (hw _ (List.mem_of_getElem? (i := 137) rfl)) (hw _ (List.mem_of_getElem? (i := 37) rfl)) (by decide) (by decide)) q4a q4b q4c (g := (mkF m 8 #[.val (.ref a1)] [(.ref al), (.ref al)])) rfl (by rw [hml]; rfl) (Steps.refl _) (argsL := []) (rest := [(.ref al)]) (lenOf own_pd11 rfl) rfl (by show 2 * 0 + _ ≤ _; exact Nat.le_of_eq rfl) (hb hby own_d22_8) (fun _ _ => ⟨rfl, e2, (by decide : 0 + 0 ≤ _), (by decide : 0 + 0 ≤ _)⟩)
  dsimp only [Pt.U, Pt.locs, Pt.cells, Pt.slots] at X4 l4 y4 z4 st4 hQ4
  subst l4 y4 z4
  obtain ⟨rfl, Nq4, e4⟩ := hQ4
  have N4 := Fr.app N0 Nq4
  refine own_fs st4 ?_
  show own_G p.tables e below _ (T4.setTop (mkF m 13 #[.val (.ref a1)] [(.int (1 : Int32)), (.ref al)]))
  refine own_fs (XS.iconst X4.here hx rfl (hb hby own_d22_13) (Steps.refl _)) ?_
  show own_G p.tables e below _ (T4.setTop (mkF m 14 #[.val (.ref a1)] [(.int (1 : Int32)), (.int (1 : Int32)), (.ref al)]))
  refine own_fs (XS.isub X4.here hx rfl (hb hby own_d22_14) rfl (Steps.refl _)) ?_
  show own_G p.tables e below _ (T4.setTop (mkF m 15 #[.val (.ref a1)] [(.int (0 : Int32)), (.ref al)]))
  have Zs8 : n0 ≤ h0.size := Z0
  obtain ⟨cq7, kq7, q7a, q7b, q7c⟩ := isOf hZ e4 hE_al
  obtain ⟨_, _, ⟨T7, L7, k7, n7⟩, -, X7, ⟨Lc7, hQ7, l7, y7, z7⟩, st7⟩ := X4.interfaceBack hx (xi := (⟨"java/util/List", "get", "(I)Ljava/lang/Object;"⟩ : MethodName)) (y := (⟨"java/util/ArrayList", "get", "(I)Ljava/lang/Object;"⟩ : MethodName)) hown (mvT hZ (hw _ (List.mem_of_getElem? (i := 138) rfl))) (mvT hZ (hw _ (List.mem_of_getElem? (i := 139) rfl))) (mvT hZ (hw _ (List.mem_of_getElem? (i := 140) rfl))) (mvT hZ (hw _ (List.mem_of_getElem? (i := 141) rfl))) (mvT hZ (hw _ (List.mem_of_getElem? (i := 142) rfl))) (mvT hZ (hw _ (List.mem_of_getElem? (i := 143) rfl))) (mvT hZ (hw _ (List.mem_of_getElem? (i := 144) rfl))) (mvT hZ (hw _ (List.mem_of_getElem? (i := 136) rfl))) (by decide) (backOf (W := 0) (own_alget1 l Z a0 hw [] al el0 d1 kd h0 n0 Zs8 hE_al hF_size_al hF_elementData_al hV_d1) hZ (hw _ (List.mem_of_getElem? (i := 145) rfl)) (hw _ (List.mem_of_getElem? (i := 37) rfl)) (by decide) (by decide)) q7a q7b q7c (g := (mkF m 15 #[.val (.ref a1)] [(.int (0 : Int32)), (.ref al)])) rfl (by rw [hml]; rfl) (Steps.refl _) (argsL := [(.int (0 : Int32))]) (rest := []) (lenOf own_pd10 rfl) rfl (by show 2 * 0 + _ ≤ _; exact Nat.le_of_eq rfl) (hb hby own_d22_15) (fun _ _ => ⟨rfl, e4, (by decide : 0 + 0 ≤ _), (by decide : 0 + 0 ≤ _)⟩)
  dsimp only [Pt.U, Pt.locs, Pt.cells, Pt.slots] at X7 l7 y7 z7 st7 hQ7
  subst l7 y7 z7
  obtain ⟨rfl, Nq7, e7⟩ := hQ7
  have N7 := Fr.app N4 Nq7
  refine own_fs st7 ?_
  show own_G p.tables e below _ (T7.setTop (mkF m 20 #[.val (.ref a1)] [(.ref el0)]))
  obtain ⟨T9, X9, e9, st9⟩ := castY X7 hx hZ hown (hw _ (List.mem_of_getElem? (i := 159) rfl)) e7 (Ins.self hE_el0) (g := (mkF m 20 #[.val (.ref a1)] [(.ref el0)])) rfl rfl (hb hby own_d22_20)
  refine own_fs (st9 _ (Steps.refl _)) ?_
  show own_G p.tables e below _ (T9.setTop (mkF m 23 #[.val (.ref a1)] [(.ref el0)]))
  exact own_retA X9 hx (t := (.object "java/lang/String")) Bd.returns hlk rfl rfl (hb hby own_d22_23) (by decide) (by decide) e9 ⟨rfl, N7, rfl⟩
theorem own_aled2_ef (m : MethodId) (x0 : Addr) (x1 : Int32) : entryFrame m #[(.ref x0), (.int x1)] 2 = mkF m 0 #[.val (.ref x0), .val (.int x1)] [] := by first | (simp [entryFrame, mkF, argsToLocals, Value.category]; done) | rfl
def own_aled2_Q (Z : State) (a1 : Addr) (el0 : Addr) (el1 : Addr) (d1 : Addr) (kd : ClassId) (h0 : Heap) (n0 : Nat) (v : Option Value) (h : Heap) (L : List Loc) : Prop := (v = some (.ref el1) ∧ Fr n0 L ∧ h = h0)
set_option maxRecDepth 65536 in
set_option maxHeartbeats 40000000 in
theorem own_aled2 (l : Launch) (Z : State) (a0 : Array Value) (hw : ∀ d ∈ tables_1, d.before a0 Z = true) (ws : List Jvm.Cond) (a1 : Addr) (el0 : Addr) (el1 : Addr) (d1 : Addr) (kd : ClassId) (h0 : Heap) (n0 : Nat) (Z0 : n0 ≤ h0.size) (hF_elementData_a1 : Fld Z h0 a1 "java/util/ArrayList" "elementData" "[Ljava/lang/Object;" (.ref d1)) (hV_d1 : Arv Z h0 d1 kd (.object "java/lang/Object") (10 : Int32) [(.ref el0), (.ref el1), .null, .null, .null, .null, .null, .null, .null, .null] .null) :
    MetFree l (⟨"java/util/ArrayList", "elementData", "(I)Ljava/lang/Object;"⟩ : MethodName) (head1 (Jvm.Cond.code (⟨"java/util/ArrayList", "elementData", "(I)Ljava/lang/Object;"⟩ : MethodName) jdk_38_method_18_code 2 (some (.object "java/lang/Object")) :: ws) ({ frames := 0, cells := 0, slots := 0, locals := 0 } : Room)) (fun a U => a = #[(.ref a1), (.int (1 : Int32))] ∧ Z.Warmed39 U.vm ∧ U.heap = h0) (fun _ _ _ _ _ => True) (fun _ U o U' => ∃ v L, o = .returned v ∧ own_aled2_Q Z a1 el0 el1 d1 kd h0 n0 v U'.heap L ∧ FrameEnd U o U' L ({ frames := 0, cells := 0, slots := 0, locals := 0 } : Room).cells ({ frames := 0, cells := 0, slots := 0, locals := 0 } : Room).slots) := by
  refine MetFree.of_bodySF (plainFor_of_name own_pn2) hisR ?_
  intro p e s m args below meth c s₁ Bd hml0 hP hK
  obtain ⟨rfl, hZ, hh⟩ := hP
  have hx := Bd.exec
  have hby := Bd.bytes
  have hlk : meth.locks = false := BodyLoose.notSynchronized Bd
  have hml : c.maxLocals = 2 := hml0
  have hown : s.vm.findClass "java/util/ArrayList" = some m.cls := findClass_of_methodNamed Bd.named
  have hnm := (name_of_methodNamed Bd.named Bd.method).1
  have X0 : Stand p l e ({ frames := 0, cells := 0, slots := 0, locals := 0 } : Room) s m #[(.ref a1), (.int (1 : Int32))] below meth c s₁ [] 0 0 := Stand.of_body Bd
  have e0 : s₁.heap = h0 := by rw [← hh, Bd.state]; rfl
  have N0 := Fr.nil n0
  refine own_start (QQ := own_aled2_Q Z a1 el0 el1 d1 kd h0 n0) (rc := ({ frames := 0, cells := 0, slots := 0, locals := 0 } : Room).cells) (rs := ({ frames := 0, cells := 0, slots := 0, locals := 0 } : Room).slots) (own_aled2_ef m a1 (1 : Int32) ) ?_
  show own_G p.tables e below _ (s₁.setTop (mkF m 0 #[.val (.ref a1), .val (.int (1 : Int32))] []))
  refine own_fs (XS.aloadN X0.here hx rfl (hb hby own_d27_0) rfl rfl (Steps.refl _)) ?_
  show own_G p.tables e below _ (s₁.setTop (mkF m 1 #[.val (.ref a1), .val (.int (1 : Int32))] [(.ref a1)]))
  obtain ⟨T1, X1, e1, st1⟩ := getF X0 hx hZ hown (host := "") (Or.inl (hw _ (List.mem_of_getElem? (i := 57) rfl))) Via.refl e0 hF_elementData_a1 (g := (mkF m 1 #[.val (.ref a1), .val (.int (1 : Int32))] [(.ref a1)])) rfl rfl (hb hby own_d27_1)
  refine own_fs (st1 _ (Steps.refl _)) ?_
  show own_G p.tables e below _ (T1.setTop (mkF m 4 #[.val (.ref a1), .val (.int (1 : Int32))] [(.ref d1)]))
  refine own_fs (XS.iloadN X1.here hx rfl (hb hby own_d27_4) rfl (Steps.refl _)) ?_
  show own_G p.tables e below _ (T1.setTop (mkF m 5 #[.val (.ref a1), .val (.int (1 : Int32))] [(.int (1 : Int32)), (.ref d1)]))
  obtain ⟨cl2, Ar2, q2, S2, O2, H2, G2⟩ := (id hV_d1)
  have hin2 : ¬ ((1 : Int32) < 0 ∨ cl2.slots.size ≤ ((1 : Int32)).toNatClampNeg) := inb_of S2 ⟨by decide, by decide⟩
  have hat2 : cl2.slots[((1 : Int32)).toNatClampNeg]? = some (.ref el1) := Has.at H2 hin2 rfl
  refine own_fs (X1.aaload hx (j := (1 : Int32)) (v := (.ref el1)) (by rw [e1]; exact Ar2.1) (State.isArrayOf_alike hZ.alike Ar2.2.1) rfl Ar2.2.2 hin2 hat2 (g := (mkF m 5 #[.val (.ref a1), .val (.int (1 : Int32))] [(.int (1 : Int32)), (.ref d1)])) rfl rfl (hb hby own_d27_5) _ (Steps.refl _)) ?_
  show own_G p.tables e below _ (T1.setTop (mkF m 6 #[.val (.ref a1), .val (.int (1 : Int32))] [(.ref el1)]))
  exact own_retA X1 hx (t := (.object "java/lang/Object")) Bd.returns hlk rfl rfl (hb hby own_d27_6) (by decide) (by decide) e1 ⟨rfl, N0, rfl⟩
theorem own_alget2_ef (m : MethodId) (x0 : Addr) (x1 : Int32) : entryFrame m #[(.ref x0), (.int x1)] 2 = mkF m 0 #[.val (.ref x0), .val (.int x1)] [] := by first | (simp [entryFrame, mkF, argsToLocals, Value.category]; done) | rfl
def own_alget2_Q (Z : State) (a1 : Addr) (el0 : Addr) (el1 : Addr) (d1 : Addr) (kd : ClassId) (h0 : Heap) (n0 : Nat) (v : Option Value) (h : Heap) (L : List Loc) : Prop := (v = some (.ref el1) ∧ Fr n0 L ∧ h = h0)
set_option maxRecDepth 65536 in
set_option maxHeartbeats 40000000 in
theorem own_alget2 (l : Launch) (Z : State) (a0 : Array Value) (hw : ∀ d ∈ tables_1, d.before a0 Z = true) (ws : List Jvm.Cond) (a1 : Addr) (el0 : Addr) (el1 : Addr) (d1 : Addr) (kd : ClassId) (h0 : Heap) (n0 : Nat) (Z0 : n0 ≤ h0.size) (hE_a1 : Exa Z h0 a1 "java/util/ArrayList") (hF_size_a1 : Fld Z h0 a1 "java/util/ArrayList" "size" "I" (.int (2 : Int32))) (hF_elementData_a1 : Fld Z h0 a1 "java/util/ArrayList" "elementData" "[Ljava/lang/Object;" (.ref d1)) (hV_d1 : Arv Z h0 d1 kd (.object "java/lang/Object") (10 : Int32) [(.ref el0), (.ref el1), .null, .null, .null, .null, .null, .null, .null, .null] .null) :
    MetFree l (⟨"java/util/ArrayList", "get", "(I)Ljava/lang/Object;"⟩ : MethodName) (head1 (Jvm.Cond.code (⟨"java/util/ArrayList", "get", "(I)Ljava/lang/Object;"⟩ : MethodName) jdk_38_method_20_code 2 (some (.object "java/lang/Object")) :: ws) ({ frames := 2, cells := 0, slots := 0, locals := 27 } : Room)) (fun a U => a = #[(.ref a1), (.int (1 : Int32))] ∧ Z.Warmed39 U.vm ∧ U.heap = h0) (fun _ _ _ _ _ => True) (fun _ U o U' => ∃ v L, o = .returned v ∧ own_alget2_Q Z a1 el0 el1 d1 kd h0 n0 v U'.heap L ∧ FrameEnd U o U' L ({ frames := 2, cells := 0, slots := 0, locals := 27 } : Room).cells ({ frames := 2, cells := 0, slots := 0, locals := 27 } : Room).slots) := by
  refine MetFree.of_bodySF (plainFor_of_name own_pn2) hisR ?_
  intro p e s m args below meth c s₁ Bd hml0 hP hK
  obtain ⟨rfl, hZ, hh⟩ := hP
  have hx := Bd.exec
  have hby := Bd.bytes
  have hlk : meth.locks = false := BodyLoose.notSynchronized Bd
  have hml : c.maxLocals = 2 := hml0
  have hown : s.vm.findClass "java/util/ArrayList" = some m.cls := findClass_of_methodNamed Bd.named
  have hnm := (name_of_methodNamed Bd.named Bd.method).1
  have X0 : Stand p l e ({ frames := 2, cells := 0, slots := 0, locals := 27 } : Room) s m #[(.ref a1), (.int (1 : Int32))] below meth c s₁ [] 0 0 := Stand.of_body Bd
  have e0 : s₁.heap = h0 := by rw [← hh, Bd.state]; rfl
  have N0 := Fr.nil n0
  refine own_start (QQ := own_alget2_Q Z a1 el0 el1 d1 kd h0 n0) (rc := ({ frames := 2, cells := 0, slots := 0, locals := 27 } : Room).cells) (rs := ({ frames := 2, cells := 0, slots := 0, locals := 27 } : Room).slots) (own_alget2_ef m a1 (1 : Int32) ) ?_
  show own_G p.tables e below _ (s₁.setTop (mkF m 0 #[.val (.ref a1), .val (.int (1 : Int32))] []))
  refine own_fs (XS.iloadN X0.here hx rfl (hb hby own_d24_0) rfl (Steps.refl _)) ?_
  show own_G p.tables e below _ (s₁.setTop (mkF m 1 #[.val (.ref a1), .val (.int (1 : Int32))] [(.int (1 : Int32))]))
  refine own_fs (XS.aloadN X0.here hx rfl (hb hby own_d24_1) rfl rfl (Steps.refl _)) ?_
  show own_G p.tables e below _ (s₁.setTop (mkF m 2 #[.val (.ref a1), .val (.int (1 : Int32))] [(.ref a1), (.int (1 : Int32))]))
  obtain ⟨T1, X1, e1, st1⟩ := getF X0 hx hZ hown (host := "") (Or.inl (hw _ (List.mem_of_getElem? (i := 66) rfl))) Via.refl e0 hF_size_a1 (g := (mkF m 2 #[.val (.ref a1), .val (.int (1 : Int32))] [(.ref a1), (.int (1 : Int32))])) rfl rfl (hb hby own_d24_2)
  refine own_fs (st1 _ (Steps.refl _)) ?_
  show own_G p.tables e below _ (T1.setTop (mkF m 5 #[.val (.ref a1), .val (.int (1 : Int32))] [(.int (2 : Int32)), (.int (1 : Int32))]))
  have Zs4 : n0 ≤ h0.size := Z0
  obtain ⟨_, _, ⟨T3, L3, k3, n3⟩, -, X3, ⟨Lc3, hQ3, l3, y3, z3⟩, st3⟩ := Jvm.LawKit.callS X1 hx (y := (⟨"java/util/Objects", "checkIndex", "(II)I"⟩ : MethodName)) hown (mvT hZ (hw _ (List.mem_of_getElem? (i := 146) rfl))) (mvT hZ (hw _ (List.mem_of_getElem? (i := 147) rfl))) (mvT hZ (hw _ (List.mem_of_getElem? (i := 148) rfl))) (mvT hZ (hw _ (List.mem_of_getElem? (i := 149) rfl))) (by decide) (backOf (W := 0) (own_ocheck l Z a0 hw [] (1 : Int32) (2 : Int32) h0 n0 Zs4 (by decide) (by decide)) hZ (hw _ (List.mem_of_getElem? (i := 149) rfl)) (hw _ (List.mem_of_getElem? (i := 148) rfl)) (by decide) (by decide)) (g := (mkF m 5 #[.val (.ref a1), .val (.int (1 : Int32))] [(.int (2 : Int32)), (.int (1 : Int32))])) rfl (by rw [hml]; rfl) (argsL := [(.int (1 : Int32)), (.int (2 : Int32))]) (rest := []) (lenOf own_pd1 rfl) rfl (by show 2 * 0 + _ ≤ _; exact Nat.le_of_eq rfl) (hb hby own_d24_5) (fun _ _ => ⟨rfl, e1, (by decide : 0 + 0 ≤ _), (by decide : 0 + 0 ≤ _)⟩)
  dsimp only [Pt.U, Pt.locs, Pt.cells, Pt.slots] at X3 l3 y3 z3 st3 hQ3
  subst l3 y3 z3
  obtain ⟨rfl, Nq3, e3⟩ := hQ3
  have N3 := Fr.app N0 Nq3
  refine own_fs (st3 _ (Steps.refl _)) ?_
  show own_G p.tables e below _ (T3.setTop (mkF m 8 #[.val (.ref a1), .val (.int (1 : Int32))] [(.int (1 : Int32))]))
  refine own_fs (XS.pop X3.here hx rfl (hb hby own_d24_8) rfl rfl (Steps.refl _)) ?_
  show own_G p.tables e below _ (T3.setTop (mkF m 9 #[.val (.ref a1), .val (.int (1 : Int32))] []))
  refine own_fs (XS.aloadN X3.here hx rfl (hb hby own_d24_9) rfl rfl (Steps.refl _)) ?_
  show own_G p.tables e below _ (T3.setTop (mkF m 10 #[.val (.ref a1), .val (.int (1 : Int32))] [(.ref a1)]))
  refine own_fs (XS.iloadN X3.here hx rfl (hb hby own_d24_10) rfl (Steps.refl _)) ?_
  show own_G p.tables e below _ (T3.setTop (mkF m 11 #[.val (.ref a1), .val (.int (1 : Int32))] [(.int (1 : Int32)), (.ref a1)]))
  have Zs7 : n0 ≤ h0.size := Z0
  obtain ⟨cq6, kq6, q6a, q6b, q6c⟩ := isOf hZ e3 hE_a1
  obtain ⟨_, _, ⟨T6, L6, k6, n6⟩, -, X6, ⟨Lc6, hQ6, l6, y6, z6⟩, st6⟩ := X3.virtualBack hx (y := (⟨"java/util/ArrayList", "elementData", "(I)Ljava/lang/Object;"⟩ : MethodName)) (z := (⟨"java/util/ArrayList", "elementData", "(I)Ljava/lang/Object;"⟩ : MethodName)) hown (mvT hZ (hw _ (List.mem_of_getElem? (i := 154) rfl))) (mvT hZ (hw _ (List.mem_of_getElem? (i := 155) rfl))) (notFace_of_selects (args := #[]) (mvT hZ (hw _ (List.mem_of_getElem? (i := 157) rfl)))) (mvT hZ (hw _ (List.mem_of_getElem? (i := 157) rfl))) (mvT hZ (hw _ (List.mem_of_getElem? (i := 156) rfl))) (by decide) (backOf (W := 0) (own_aled2 l Z a0 hw [] a1 el0 el1 d1 kd h0 n0 Zs7 hF_elementData_a1 hV_d1) hZ (hw _ (List.mem_of_getElem? (i := 158) rfl)) (hw _ (List.mem_of_getElem? (i := 37) rfl)) (by decide) (by decide)) q6a q6c (g := (mkF m 11 #[.val (.ref a1), .val (.int (1 : Int32))] [(.int (1 : Int32)), (.ref a1)])) rfl (by rw [hml]; rfl) (Steps.refl _) (argsL := [(.int (1 : Int32))]) (rest := []) (lenOf own_pd10 rfl) rfl (by show 2 * 0 + _ ≤ _; exact Nat.le_of_eq rfl) (hb hby own_d24_11) (fun _ _ => ⟨rfl, e3, (by decide : 0 + 0 ≤ _), (by decide : 0 + 0 ≤ _)⟩)
  dsimp only [Pt.U, Pt.locs, Pt.cells, Pt.slots] at X6 l6 y6 z6 st6 hQ6
  subst l6 y6 z6
  obtain ⟨rfl, Nq6, e6⟩ := hQ6
  have N6 := Fr.app N3 Nq6
  refine own_fs st6 ?_
  show own_G p.tables e below _ (T6.setTop (mkF m 14 #[.val (.ref a1), .val (.int (1 : Int32))] [(.ref el1)]))
  exact own_retA X6 hx (t := (.object "java/lang/Object")) Bd.returns hlk rfl rfl (hb hby own_d24_14) (by decide) (by decide) e6 ⟨rfl, N6, rfl⟩
theorem own_fname2_ef (m : MethodId) (x0 : Addr) : entryFrame m #[(.ref x0)] 1 = mkF m 0 #[.val (.ref x0)] [] := by first | (simp [entryFrame, mkF, argsToLocals, Value.category]; done) | rfl
def own_fname2_Q (Z : State) (a1 : Addr) (al : Addr) (el0 : Addr) (el1 : Addr) (d1 : Addr) (kd : ClassId) (h0 : Heap) (n0 : Nat) (v : Option Value) (h : Heap) (L : List Loc) : Prop := (v = some (.ref el1) ∧ Fr n0 L ∧ h = h0)
set_option maxRecDepth 65536 in
set_option maxHeartbeats 40000000 in
theorem own_fname2 (l : Launch) (Z : State) (a0 : Array Value) (hw : ∀ d ∈ tables_1, d.before a0 Z = true) (ws : List Jvm.Cond) (a1 : Addr) (al : Addr) (el0 : Addr) (el1 : Addr) (d1 : Addr) (kd : ClassId) (h0 : Heap) (n0 : Nat) (Z0 : n0 ≤ h0.size) (hF_path_a1 : Fld Z h0 a1 "com/example/corbelpath/corbelpath/Deployment$Target" "path" "Ljava/util/List;" (.ref al)) (hE_al : Exa Z h0 al "java/util/ArrayList") (hF_size_al : Fld Z h0 al "java/util/ArrayList" "size" "I" (.int (2 : Int32))) (hF_elementData_al : Fld Z h0 al "java/util/ArrayList" "elementData" "[Ljava/lang/Object;" (.ref d1)) (hV_d1 : Arv Z h0 d1 kd (.object "java/lang/Object") (10 : Int32) [(.ref el0), (.ref el1), .null, .null, .null, .null, .null, .null, .null, .null] .null) (hE_el1 : Exa Z h0 el1 "java/lang/String") :
    MetFree l (⟨"com/example/corbelpath/corbelpath/Deployment$Target", "fileName", "()Ljava/lang/String;"⟩ : MethodName) (head1 (Jvm.Cond.code (⟨"com/example/corbelpath/corbelpath/Deployment$Target", "fileName", "()Ljava/lang/String;"⟩ : MethodName) prog_27_method_4_code 1 (some (.object "java/lang/String")) :: ws) ({ frames := 3, cells := 0, slots := 0, locals := 40 } : Room)) (fun a U => a = #[(.ref a1)] ∧ Z.Warmed39 U.vm ∧ U.heap = h0) (fun _ _ _ _ _ => True) (fun _ U o U' => ∃ v L, o = .returned v ∧ own_fname2_Q Z a1 al el0 el1 d1 kd h0 n0 v U'.heap L ∧ FrameEnd U o U' L ({ frames := 3, cells := 0, slots := 0, locals := 40 } : Room).cells ({ frames := 3, cells := 0, slots := 0, locals := 40 } : Room).slots) := by
  refine MetFree.of_bodySF (plainFor_of_name own_pn7) hisR ?_
  intro p e s m args below meth c s₁ Bd hml0 hP hK
  obtain ⟨rfl, hZ, hh⟩ := hP
  have hx := Bd.exec
  have hby := Bd.bytes
  have hlk : meth.locks = false := BodyLoose.notSynchronized Bd
  have hml : c.maxLocals = 1 := hml0
  have hown : s.vm.findClass "com/example/corbelpath/corbelpath/Deployment$Target" = some m.cls := findClass_of_methodNamed Bd.named
  have hnm := (name_of_methodNamed Bd.named Bd.method).1
  have X0 : Stand p l e ({ frames := 3, cells := 0, slots := 0, locals := 40 } : Room) s m #[(.ref a1)] below meth c s₁ [] 0 0 := Stand.of_body Bd
  have e0 : s₁.heap = h0 := by rw [← hh, Bd.state]; rfl
  have N0 := Fr.nil n0
  refine own_start (QQ := own_fname2_Q Z a1 al el0 el1 d1 kd h0 n0) (rc := ({ frames := 3, cells := 0, slots := 0, locals := 40 } : Room).cells) (rs := ({ frames := 3, cells := 0, slots := 0, locals := 40 } : Room).slots) (own_fname2_ef m a1 ) ?_
  show own_G p.tables e below _ (s₁.setTop (mkF m 0 #[.val (.ref a1)] []))
  refine own_fs (XS.aloadN X0.here hx rfl (hb hby own_d22_0) rfl rfl (Steps.refl _)) ?_
  show own_G p.tables e below _ (s₁.setTop (mkF m 1 #[.val (.ref a1)] [(.ref a1)]))
  obtain ⟨T1, X1, e1, st1⟩ := getF X0 hx hZ hown (host := "") (Or.inl (hw _ (List.mem_of_getElem? (i := 122) rfl))) Via.refl e0 hF_path_a1 (g := (mkF m 1 #[.val (.ref a1)] [(.ref a1)])) rfl rfl (hb hby own_d22_1)
  refine own_fs (st1 _ (Steps.refl _)) ?_
  show own_G p.tables e below _ (T1.setTop (mkF m 4 #[.val (.ref a1)] [(.ref al)]))
  refine own_fs (XS.aloadN X1.here hx rfl (hb hby own_d22_4) rfl rfl (Steps.refl _)) ?_
  show own_G p.tables e below _ (T1.setTop (mkF m 5 #[.val (.ref a1)] [(.ref a1), (.ref al)]))
  obtain ⟨T2, X2, e2, st2⟩ := getF X1 hx hZ hown (host := "") (Or.inl (hw _ (List.mem_of_getElem? (i := 122) rfl))) Via.refl e1 hF_path_a1 (g := (mkF m 5 #[.val (.ref a1)] [(.ref a1), (.ref al)])) rfl rfl (hb hby own_d22_5)
  refine own_fs (st2 _ (Steps.refl _)) ?_
  show own_G p.tables e below _ (T2.setTop (mkF m 8 #[.val (.ref a1)] [(.ref al), (.ref al)]))
  have Zs5 : n0 ≤ h0.size := Z0
  obtain ⟨cq4, kq4, q4a, q4b, q4c⟩ := isOf hZ e2 hE_al
  obtain ⟨_, _, ⟨T4, L4, k4, n4⟩, -, X4, ⟨Lc4, hQ4, l4, y4, z4⟩, st4⟩ := X2.interfaceBack hx (xi := (⟨"java/util/List", "size", "()I"⟩ : MethodName)) (y := (⟨"java/util/ArrayList", "size", "()I"⟩ : MethodName)) hown (mvT hZ (hw _ (List.mem_of_getElem? (i := 129) rfl))) (mvT hZ (hw _ (List.mem_of_getElem? (i := 130) rfl))) (mvT hZ (hw _ (List.mem_of_getElem? (i := 131) rfl))) (mvT hZ (hw _ (List.mem_of_getElem? (i := 132) rfl))) (mvT hZ (hw _ (List.mem_of_getElem? (i := 133) rfl))) (mvT hZ (hw _ (List.mem_of_getElem? (i := 134) rfl))) (mvT hZ (hw _ (List.mem_of_getElem? (i := 135) rfl))) (mvT hZ (hw _ (List.mem_of_getElem? (i := 136) rfl))) (by decide) (backOf (W := 1) (own_alsize l Z a0 hw [] al (2 : Int32) h0 n0 Zs5 hF_size_al) hZ (hw _ (List.mem_of_getElem? (i := 137) rfl)) (hw _ (List.mem_of_getElem? (i := 37) rfl)) (by decide) (by decide)) q4a q4b q4c (g := (mkF m 8 #[.val (.ref a1)] [(.ref al), (.ref al)])) rfl (by rw [hml]; rfl) (Steps.refl _) (argsL := []) (rest := [(.ref al)]) (lenOf own_pd11 rfl) rfl (by show 2 * 0 + _ ≤ _; exact Nat.le_of_eq rfl) (hb hby own_d22_8) (fun _ _ => ⟨rfl, e2, (by decide : 0 + 0 ≤ _), (by decide : 0 + 0 ≤ _)⟩)
  dsimp only [Pt.U, Pt.locs, Pt.cells, Pt.slots] at X4 l4 y4 z4 st4 hQ4
  subst l4 y4 z4
  obtain ⟨rfl, Nq4, e4⟩ := hQ4
  have N4 := Fr.app N0 Nq4
  refine own_fs st4 ?_
  show own_G p.tables e below _ (T4.setTop (mkF m 13 #[.val (.ref a1)] [(.int (2 : Int32)), (.ref al)]))
  refine own_fs (XS.iconst X4.here hx rfl (hb hby own_d22_13) (Steps.refl _)) ?_
  show own_G p.tables e below _ (T4.setTop (mkF m 14 #[.val (.ref a1)] [(.int (1 : Int32)), (.int (2 : Int32)), (.ref al)]))
  refine own_fs (XS.isub X4.here hx rfl (hb hby own_d22_14) rfl (Steps.refl _)) ?_
  show own_G p.tables e below _ (T4.setTop (mkF m 15 #[.val (.ref a1)] [(.int (1 : Int32)), (.ref al)]))
  have Zs8 : n0 ≤ h0.size := Z0
  obtain ⟨cq7, kq7, q7a, q7b, q7c⟩ := isOf hZ e4 hE_al
  obtain ⟨_, _, ⟨T7, L7, k7, n7⟩, -, X7, ⟨Lc7, hQ7, l7, y7, z7⟩, st7⟩ := X4.interfaceBack hx (xi := (⟨"java/util/List", "get", "(I)Ljava/lang/Object;"⟩ : MethodName)) (y := (⟨"java/util/ArrayList", "get", "(I)Ljava/lang/Object;"⟩ : MethodName)) hown (mvT hZ (hw _ (List.mem_of_getElem? (i := 138) rfl))) (mvT hZ (hw _ (List.mem_of_getElem? (i := 139) rfl))) (mvT hZ (hw _ (List.mem_of_getElem? (i := 140) rfl))) (mvT hZ (hw _ (List.mem_of_getElem? (i := 141) rfl))) (mvT hZ (hw _ (List.mem_of_getElem? (i := 142) rfl))) (mvT hZ (hw _ (List.mem_of_getElem? (i := 143) rfl))) (mvT hZ (hw _ (List.mem_of_getElem? (i := 144) rfl))) (mvT hZ (hw _ (List.mem_of_getElem? (i := 136) rfl))) (by decide) (backOf (W := 0) (own_alget2 l Z a0 hw [] al el0 el1 d1 kd h0 n0 Zs8 hE_al hF_size_al hF_elementData_al hV_d1) hZ (hw _ (List.mem_of_getElem? (i := 145) rfl)) (hw _ (List.mem_of_getElem? (i := 37) rfl)) (by decide) (by decide)) q7a q7b q7c (g := (mkF m 15 #[.val (.ref a1)] [(.int (1 : Int32)), (.ref al)])) rfl (by rw [hml]; rfl) (Steps.refl _) (argsL := [(.int (1 : Int32))]) (rest := []) (lenOf own_pd10 rfl) rfl (by show 2 * 0 + _ ≤ _; exact Nat.le_of_eq rfl) (hb hby own_d22_15) (fun _ _ => ⟨rfl, e4, (by decide : 0 + 0 ≤ _), (by decide : 0 + 0 ≤ _)⟩)
  dsimp only [Pt.U, Pt.locs, Pt.cells, Pt.slots] at X7 l7 y7 z7 st7 hQ7
  subst l7 y7 z7
  obtain ⟨rfl, Nq7, e7⟩ := hQ7
  have N7 := Fr.app N4 Nq7
  refine own_fs st7 ?_
  show own_G p.tables e below _ (T7.setTop (mkF m 20 #[.val (.ref a1)] [(.ref el1)]))
  obtain ⟨T9, X9, e9, st9⟩ := castY X7 hx hZ hown (hw _ (List.mem_of_getElem? (i := 159) rfl)) e7 (Ins.self hE_el1) (g := (mkF m 20 #[.val (.ref a1)] [(.ref el1)])) rfl rfl (hb hby own_d22_20)
  refine own_fs (st9 _ (Steps.refl _)) ?_
  show own_G p.tables e below _ (T9.setTop (mkF m 23 #[.val (.ref a1)] [(.ref el1)]))
  exact own_retA X9 hx (t := (.object "java/lang/String")) Bd.returns hlk rfl rfl (hb hby own_d22_23) (by decide) (by decide) e9 ⟨rfl, N7, rfl⟩
theorem own_aled3_ef (m : MethodId) (x0 : Addr) (x1 : Int32) : entryFrame m #[(.ref x0), (.int x1)] 2 = mkF m 0 #[.val (.ref x0), .val (.int x1)] [] := by first | (simp [entryFrame, mkF, argsToLocals, Value.category]; done) | rfl
def own_aled3_Q (Z : State) (a1 : Addr) (el0 : Addr) (el1 : Addr) (el2 : Addr) (d1 : Addr) (kd : ClassId) (h0 : Heap) (n0 : Nat) (v : Option Value) (h : Heap) (L : List Loc) : Prop := (v = some (.ref el2) ∧ Fr n0 L ∧ h = h0)
set_option maxRecDepth 65536 in
set_option maxHeartbeats 40000000 in
theorem own_aled3 (l : Launch) (Z : State) (a0 : Array Value) (hw : ∀ d ∈ tables_1, d.before a0 Z = true) (ws : List Jvm.Cond) (a1 : Addr) (el0 : Addr) (el1 : Addr) (el2 : Addr) (d1 : Addr) (kd : ClassId) (h0 : Heap) (n0 : Nat) (Z0 : n0 ≤ h0.size) (hF_elementData_a1 : Fld Z h0 a1 "java/util/ArrayList" "elementData" "[Ljava/lang/Object;" (.ref d1)) (hV_d1 : Arv Z h0 d1 kd (.object "java/lang/Object") (10 : Int32) [(.ref el0), (.ref el1), (.ref el2), .null, .null, .null, .null, .null, .null, .null] .null) :
    MetFree l (⟨"java/util/ArrayList", "elementData", "(I)Ljava/lang/Object;"⟩ : MethodName) (head1 (Jvm.Cond.code (⟨"java/util/ArrayList", "elementData", "(I)Ljava/lang/Object;"⟩ : MethodName) jdk_38_method_18_code 2 (some (.object "java/lang/Object")) :: ws) ({ frames := 0, cells := 0, slots := 0, locals := 0 } : Room)) (fun a U => a = #[(.ref a1), (.int (2 : Int32))] ∧ Z.Warmed39 U.vm ∧ U.heap = h0) (fun _ _ _ _ _ => True) (fun _ U o U' => ∃ v L, o = .returned v ∧ own_aled3_Q Z a1 el0 el1 el2 d1 kd h0 n0 v U'.heap L ∧ FrameEnd U o U' L ({ frames := 0, cells := 0, slots := 0, locals := 0 } : Room).cells ({ frames := 0, cells := 0, slots := 0, locals := 0 } : Room).slots) := by
  refine MetFree.of_bodySF (plainFor_of_name own_pn2) hisR ?_
  intro p e s m args below meth c s₁ Bd hml0 hP hK
  obtain ⟨rfl, hZ, hh⟩ := hP
  have hx := Bd.exec
  have hby := Bd.bytes
  have hlk : meth.locks = false := BodyLoose.notSynchronized Bd
  have hml : c.maxLocals = 2 := hml0
  have hown : s.vm.findClass "java/util/ArrayList" = some m.cls := findClass_of_methodNamed Bd.named
  have hnm := (name_of_methodNamed Bd.named Bd.method).1
  have X0 : Stand p l e ({ frames := 0, cells := 0, slots := 0, locals := 0 } : Room) s m #[(.ref a1), (.int (2 : Int32))] below meth c s₁ [] 0 0 := Stand.of_body Bd
  have e0 : s₁.heap = h0 := by rw [← hh, Bd.state]; rfl
  have N0 := Fr.nil n0
  refine own_start (QQ := own_aled3_Q Z a1 el0 el1 el2 d1 kd h0 n0) (rc := ({ frames := 0, cells := 0, slots := 0, locals := 0 } : Room).cells) (rs := ({ frames := 0, cells := 0, slots := 0, locals := 0 } : Room).slots) (own_aled3_ef m a1 (2 : Int32) ) ?_
  show own_G p.tables e below _ (s₁.setTop (mkF m 0 #[.val (.ref a1), .val (.int (2 : Int32))] []))
  refine own_fs (XS.aloadN X0.here hx rfl (hb hby own_d27_0) rfl rfl (Steps.refl _)) ?_
  show own_G p.tables e below _ (s₁.setTop (mkF m 1 #[.val (.ref a1), .val (.int (2 : Int32))] [(.ref a1)]))
  obtain ⟨T1, X1, e1, st1⟩ := getF X0 hx hZ hown (host := "") (Or.inl (hw _ (List.mem_of_getElem? (i := 57) rfl))) Via.refl e0 hF_elementData_a1 (g := (mkF m 1 #[.val (.ref a1), .val (.int (2 : Int32))] [(.ref a1)])) rfl rfl (hb hby own_d27_1)
  refine own_fs (st1 _ (Steps.refl _)) ?_
  show own_G p.tables e below _ (T1.setTop (mkF m 4 #[.val (.ref a1), .val (.int (2 : Int32))] [(.ref d1)]))
  refine own_fs (XS.iloadN X1.here hx rfl (hb hby own_d27_4) rfl (Steps.refl _)) ?_
  show own_G p.tables e below _ (T1.setTop (mkF m 5 #[.val (.ref a1), .val (.int (2 : Int32))] [(.int (2 : Int32)), (.ref d1)]))
  obtain ⟨cl2, Ar2, q2, S2, O2, H2, G2⟩ := (id hV_d1)
  have hin2 : ¬ ((2 : Int32) < 0 ∨ cl2.slots.size ≤ ((2 : Int32)).toNatClampNeg) := inb_of S2 ⟨by decide, by decide⟩
  have hat2 : cl2.slots[((2 : Int32)).toNatClampNeg]? = some (.ref el2) := Has.at H2 hin2 rfl
  refine own_fs (X1.aaload hx (j := (2 : Int32)) (v := (.ref el2)) (by rw [e1]; exact Ar2.1) (State.isArrayOf_alike hZ.alike Ar2.2.1) rfl Ar2.2.2 hin2 hat2 (g := (mkF m 5 #[.val (.ref a1), .val (.int (2 : Int32))] [(.int (2 : Int32)), (.ref d1)])) rfl rfl (hb hby own_d27_5) _ (Steps.refl _)) ?_
  show own_G p.tables e below _ (T1.setTop (mkF m 6 #[.val (.ref a1), .val (.int (2 : Int32))] [(.ref el2)]))
  exact own_retA X1 hx (t := (.object "java/lang/Object")) Bd.returns hlk rfl rfl (hb hby own_d27_6) (by decide) (by decide) e1 ⟨rfl, N0, rfl⟩
theorem own_alget3_ef (m : MethodId) (x0 : Addr) (x1 : Int32) : entryFrame m #[(.ref x0), (.int x1)] 2 = mkF m 0 #[.val (.ref x0), .val (.int x1)] [] := by first | (simp [entryFrame, mkF, argsToLocals, Value.category]; done) | rfl
def own_alget3_Q (Z : State) (a1 : Addr) (el0 : Addr) (el1 : Addr) (el2 : Addr) (d1 : Addr) (kd : ClassId) (h0 : Heap) (n0 : Nat) (v : Option Value) (h : Heap) (L : List Loc) : Prop := (v = some (.ref el2) ∧ Fr n0 L ∧ h = h0)
set_option maxRecDepth 65536 in
set_option maxHeartbeats 40000000 in
theorem own_alget3 (l : Launch) (Z : State) (a0 : Array Value) (hw : ∀ d ∈ tables_1, d.before a0 Z = true) (ws : List Jvm.Cond) (a1 : Addr) (el0 : Addr) (el1 : Addr) (el2 : Addr) (d1 : Addr) (kd : ClassId) (h0 : Heap) (n0 : Nat) (Z0 : n0 ≤ h0.size) (hE_a1 : Exa Z h0 a1 "java/util/ArrayList") (hF_size_a1 : Fld Z h0 a1 "java/util/ArrayList" "size" "I" (.int (3 : Int32))) (hF_elementData_a1 : Fld Z h0 a1 "java/util/ArrayList" "elementData" "[Ljava/lang/Object;" (.ref d1)) (hV_d1 : Arv Z h0 d1 kd (.object "java/lang/Object") (10 : Int32) [(.ref el0), (.ref el1), (.ref el2), .null, .null, .null, .null, .null, .null, .null] .null) :
    MetFree l (⟨"java/util/ArrayList", "get", "(I)Ljava/lang/Object;"⟩ : MethodName) (head1 (Jvm.Cond.code (⟨"java/util/ArrayList", "get", "(I)Ljava/lang/Object;"⟩ : MethodName) jdk_38_method_20_code 2 (some (.object "java/lang/Object")) :: ws) ({ frames := 2, cells := 0, slots := 0, locals := 27 } : Room)) (fun a U => a = #[(.ref a1), (.int (2 : Int32))] ∧ Z.Warmed39 U.vm ∧ U.heap = h0) (fun _ _ _ _ _ => True) (fun _ U o U' => ∃ v L, o = .returned v ∧ own_alget3_Q Z a1 el0 el1 el2 d1 kd h0 n0 v U'.heap L ∧ FrameEnd U o U' L ({ frames := 2, cells := 0, slots := 0, locals := 27 } : Room).cells ({ frames := 2, cells := 0, slots := 0, locals := 27 } : Room).slots) := by
  refine MetFree.of_bodySF (plainFor_of_name own_pn2) hisR ?_
  intro p e s m args below meth c s₁ Bd hml0 hP hK
  obtain ⟨rfl, hZ, hh⟩ := hP
  have hx := Bd.exec
  have hby := Bd.bytes
  have hlk : meth.locks = false := BodyLoose.notSynchronized Bd
  have hml : c.maxLocals = 2 := hml0
  have hown : s.vm.findClass "java/util/ArrayList" = some m.cls := findClass_of_methodNamed Bd.named
  have hnm := (name_of_methodNamed Bd.named Bd.method).1
  have X0 : Stand p l e ({ frames := 2, cells := 0, slots := 0, locals := 27 } : Room) s m #[(.ref a1), (.int (2 : Int32))] below meth c s₁ [] 0 0 := Stand.of_body Bd
  have e0 : s₁.heap = h0 := by rw [← hh, Bd.state]; rfl
  have N0 := Fr.nil n0
  refine own_start (QQ := own_alget3_Q Z a1 el0 el1 el2 d1 kd h0 n0) (rc := ({ frames := 2, cells := 0, slots := 0, locals := 27 } : Room).cells) (rs := ({ frames := 2, cells := 0, slots := 0, locals := 27 } : Room).slots) (own_alget3_ef m a1 (2 : Int32) ) ?_
  show own_G p.tables e below _ (s₁.setTop (mkF m 0 #[.val (.ref a1), .val (.int (2 : Int32))] []))
  refine own_fs (XS.iloadN X0.here hx rfl (hb hby own_d24_0) rfl (Steps.refl _)) ?_
  show own_G p.tables e below _ (s₁.setTop (mkF m 1 #[.val (.ref a1), .val (.int (2 : Int32))] [(.int (2 : Int32))]))
  refine own_fs (XS.aloadN X0.here hx rfl (hb hby own_d24_1) rfl rfl (Steps.refl _)) ?_
  show own_G p.tables e below _ (s₁.setTop (mkF m 2 #[.val (.ref a1), .val (.int (2 : Int32))] [(.ref a1), (.int (2 : Int32))]))
  obtain ⟨T1, X1, e1, st1⟩ := getF X0 hx hZ hown (host := "") (Or.inl (hw _ (List.mem_of_getElem? (i := 66) rfl))) Via.refl e0 hF_size_a1 (g := (mkF m 2 #[.val (.ref a1), .val (.int (2 : Int32))] [(.ref a1), (.int (2 : Int32))])) rfl rfl (hb hby own_d24_2)
  refine own_fs (st1 _ (Steps.refl _)) ?_
  show own_G p.tables e below _ (T1.setTop (mkF m 5 #[.val (.ref a1), .val (.int (2 : Int32))] [(.int (3 : Int32)), (.int (2 : Int32))]))
  have Zs4 : n0 ≤ h0.size := Z0
  obtain ⟨_, _, ⟨T3, L3, k3, n3⟩, -, X3, ⟨Lc3, hQ3, l3, y3, z3⟩, st3⟩ := Jvm.LawKit.callS X1 hx (y := (⟨"java/util/Objects", "checkIndex", "(II)I"⟩ : MethodName)) hown (mvT hZ (hw _ (List.mem_of_getElem? (i := 146) rfl))) (mvT hZ (hw _ (List.mem_of_getElem? (i := 147) rfl))) (mvT hZ (hw _ (List.mem_of_getElem? (i := 148) rfl))) (mvT hZ (hw _ (List.mem_of_getElem? (i := 149) rfl))) (by decide) (backOf (W := 0) (own_ocheck l Z a0 hw [] (2 : Int32) (3 : Int32) h0 n0 Zs4 (by decide) (by decide)) hZ (hw _ (List.mem_of_getElem? (i := 149) rfl)) (hw _ (List.mem_of_getElem? (i := 148) rfl)) (by decide) (by decide)) (g := (mkF m 5 #[.val (.ref a1), .val (.int (2 : Int32))] [(.int (3 : Int32)), (.int (2 : Int32))])) rfl (by rw [hml]; rfl) (argsL := [(.int (2 : Int32)), (.int (3 : Int32))]) (rest := []) (lenOf own_pd1 rfl) rfl (by show 2 * 0 + _ ≤ _; exact Nat.le_of_eq rfl) (hb hby own_d24_5) (fun _ _ => ⟨rfl, e1, (by decide : 0 + 0 ≤ _), (by decide : 0 + 0 ≤ _)⟩)
  dsimp only [Pt.U, Pt.locs, Pt.cells, Pt.slots] at X3 l3 y3 z3 st3 hQ3
  subst l3 y3 z3
  obtain ⟨rfl, Nq3, e3⟩ := hQ3
  have N3 := Fr.app N0 Nq3
  refine own_fs (st3 _ (Steps.refl _)) ?_
  show own_G p.tables e below _ (T3.setTop (mkF m 8 #[.val (.ref a1), .val (.int (2 : Int32))] [(.int (2 : Int32))]))
  refine own_fs (XS.pop X3.here hx rfl (hb hby own_d24_8) rfl rfl (Steps.refl _)) ?_
  show own_G p.tables e below _ (T3.setTop (mkF m 9 #[.val (.ref a1), .val (.int (2 : Int32))] []))
  refine own_fs (XS.aloadN X3.here hx rfl (hb hby own_d24_9) rfl rfl (Steps.refl _)) ?_
  show own_G p.tables e below _ (T3.setTop (mkF m 10 #[.val (.ref a1), .val (.int (2 : Int32))] [(.ref a1)]))
  refine own_fs (XS.iloadN X3.here hx rfl (hb hby own_d24_10) rfl (Steps.refl _)) ?_
  show own_G p.tables e below _ (T3.setTop (mkF m 11 #[.val (.ref a1), .val (.int (2 : Int32))] [(.int (2 : Int32)), (.ref a1)]))
  have Zs7 : n0 ≤ h0.size := Z0
  obtain ⟨cq6, kq6, q6a, q6b, q6c⟩ := isOf hZ e3 hE_a1
  obtain ⟨_, _, ⟨T6, L6, k6, n6⟩, -, X6, ⟨Lc6, hQ6, l6, y6, z6⟩, st6⟩ := X3.virtualBack hx (y := (⟨"java/util/ArrayList", "elementData", "(I)Ljava/lang/Object;"⟩ : MethodName)) (z := (⟨"java/util/ArrayList", "elementData", "(I)Ljava/lang/Object;"⟩ : MethodName)) hown (mvT hZ (hw _ (List.mem_of_getElem? (i := 154) rfl))) (mvT hZ (hw _ (List.mem_of_getElem? (i := 155) rfl))) (notFace_of_selects (args := #[]) (mvT hZ (hw _ (List.mem_of_getElem? (i := 157) rfl)))) (mvT hZ (hw _ (List.mem_of_getElem? (i := 157) rfl))) (mvT hZ (hw _ (List.mem_of_getElem? (i := 156) rfl))) (by decide) (backOf (W := 0) (own_aled3 l Z a0 hw [] a1 el0 el1 el2 d1 kd h0 n0 Zs7 hF_elementData_a1 hV_d1) hZ (hw _ (List.mem_of_getElem? (i := 158) rfl)) (hw _ (List.mem_of_getElem? (i := 37) rfl)) (by decide) (by decide)) q6a q6c (g := (mkF m 11 #[.val (.ref a1), .val (.int (2 : Int32))] [(.int (2 : Int32)), (.ref a1)])) rfl (by rw [hml]; rfl) (Steps.refl _) (argsL := [(.int (2 : Int32))]) (rest := []) (lenOf own_pd10 rfl) rfl (by show 2 * 0 + _ ≤ _; exact Nat.le_of_eq rfl) (hb hby own_d24_11) (fun _ _ => ⟨rfl, e3, (by decide : 0 + 0 ≤ _), (by decide : 0 + 0 ≤ _)⟩)
  dsimp only [Pt.U, Pt.locs, Pt.cells, Pt.slots] at X6 l6 y6 z6 st6 hQ6
  subst l6 y6 z6
  obtain ⟨rfl, Nq6, e6⟩ := hQ6
  have N6 := Fr.app N3 Nq6
  refine own_fs st6 ?_
  show own_G p.tables e below _ (T6.setTop (mkF m 14 #[.val (.ref a1), .val (.int (2 : Int32))] [(.ref el2)]))
  exact own_retA X6 hx (t := (.object "java/lang/Object")) Bd.returns hlk rfl rfl (hb hby own_d24_14) (by decide) (by decide) e6 ⟨rfl, N6, rfl⟩
theorem own_fname3_ef (m : MethodId) (x0 : Addr) : entryFrame m #[(.ref x0)] 1 = mkF m 0 #[.val (.ref x0)] [] := by first | (simp [entryFrame, mkF, argsToLocals, Value.category]; done) | rfl
def own_fname3_Q (Z : State) (a1 : Addr) (al : Addr) (el0 : Addr) (el1 : Addr) (el2 : Addr) (d1 : Addr) (kd : ClassId) (h0 : Heap) (n0 : Nat) (v : Option Value) (h : Heap) (L : List Loc) : Prop := (v = some (.ref el2) ∧ Fr n0 L ∧ h = h0)
set_option maxRecDepth 65536 in
set_option maxHeartbeats 40000000 in
theorem own_fname3 (l : Launch) (Z : State) (a0 : Array Value) (hw : ∀ d ∈ tables_1, d.before a0 Z = true) (ws : List Jvm.Cond) (a1 : Addr) (al : Addr) (el0 : Addr) (el1 : Addr) (el2 : Addr) (d1 : Addr) (kd : ClassId) (h0 : Heap) (n0 : Nat) (Z0 : n0 ≤ h0.size) (hF_path_a1 : Fld Z h0 a1 "com/example/corbelpath/corbelpath/Deployment$Target" "path" "Ljava/util/List;" (.ref al)) (hE_al : Exa Z h0 al "java/util/ArrayList") (hF_size_al : Fld Z h0 al "java/util/ArrayList" "size" "I" (.int (3 : Int32))) (hF_elementData_al : Fld Z h0 al "java/util/ArrayList" "elementData" "[Ljava/lang/Object;" (.ref d1)) (hV_d1 : Arv Z h0 d1 kd (.object "java/lang/Object") (10 : Int32) [(.ref el0), (.ref el1), (.ref el2), .null, .null, .null, .null, .null, .null, .null] .null) (hE_el2 : Exa Z h0 el2 "java/lang/String") :
    MetFree l (⟨"com/example/corbelpath/corbelpath/Deployment$Target", "fileName", "()Ljava/lang/String;"⟩ : MethodName) (head1 (Jvm.Cond.code (⟨"com/example/corbelpath/corbelpath/Deployment$Target", "fileName", "()Ljava/lang/String;"⟩ : MethodName) prog_27_method_4_code 1 (some (.object "java/lang/String")) :: ws) ({ frames := 3, cells := 0, slots := 0, locals := 40 } : Room)) (fun a U => a = #[(.ref a1)] ∧ Z.Warmed39 U.vm ∧ U.heap = h0) (fun _ _ _ _ _ => True) (fun _ U o U' => ∃ v L, o = .returned v ∧ own_fname3_Q Z a1 al el0 el1 el2 d1 kd h0 n0 v U'.heap L ∧ FrameEnd U o U' L ({ frames := 3, cells := 0, slots := 0, locals := 40 } : Room).cells ({ frames := 3, cells := 0, slots := 0, locals := 40 } : Room).slots) := by
  refine MetFree.of_bodySF (plainFor_of_name own_pn7) hisR ?_
  intro p e s m args below meth c s₁ Bd hml0 hP hK
  obtain ⟨rfl, hZ, hh⟩ := hP
  have hx := Bd.exec
  have hby := Bd.bytes
  have hlk : meth.locks = false := BodyLoose.notSynchronized Bd
  have hml : c.maxLocals = 1 := hml0
  have hown : s.vm.findClass "com/example/corbelpath/corbelpath/Deployment$Target" = some m.cls := findClass_of_methodNamed Bd.named
  have hnm := (name_of_methodNamed Bd.named Bd.method).1
  have X0 : Stand p l e ({ frames := 3, cells := 0, slots := 0, locals := 40 } : Room) s m #[(.ref a1)] below meth c s₁ [] 0 0 := Stand.of_body Bd
  have e0 : s₁.heap = h0 := by rw [← hh, Bd.state]; rfl
  have N0 := Fr.nil n0
  refine own_start (QQ := own_fname3_Q Z a1 al el0 el1 el2 d1 kd h0 n0) (rc := ({ frames := 3, cells := 0, slots := 0, locals := 40 } : Room).cells) (rs := ({ frames := 3, cells := 0, slots := 0, locals := 40 } : Room).slots) (own_fname3_ef m a1 ) ?_
  show own_G p.tables e below _ (s₁.setTop (mkF m 0 #[.val (.ref a1)] []))
  refine own_fs (XS.aloadN X0.here hx rfl (hb hby own_d22_0) rfl rfl (Steps.refl _)) ?_
  show own_G p.tables e below _ (s₁.setTop (mkF m 1 #[.val (.ref a1)] [(.ref a1)]))
  obtain ⟨T1, X1, e1, st1⟩ := getF X0 hx hZ hown (host := "") (Or.inl (hw _ (List.mem_of_getElem? (i := 122) rfl))) Via.refl e0 hF_path_a1 (g := (mkF m 1 #[.val (.ref a1)] [(.ref a1)])) rfl rfl (hb hby own_d22_1)
  refine own_fs (st1 _ (Steps.refl _)) ?_
  show own_G p.tables e below _ (T1.setTop (mkF m 4 #[.val (.ref a1)] [(.ref al)]))
  refine own_fs (XS.aloadN X1.here hx rfl (hb hby own_d22_4) rfl rfl (Steps.refl _)) ?_
  show own_G p.tables e below _ (T1.setTop (mkF m 5 #[.val (.ref a1)] [(.ref a1), (.ref al)]))
  obtain ⟨T2, X2, e2, st2⟩ := getF X1 hx hZ hown (host := "") (Or.inl (hw _ (List.mem_of_getElem? (i := 122) rfl))) Via.refl e1 hF_path_a1 (g := (mkF m 5 #[.val (.ref a1)] [(.ref a1), (.ref al)])) rfl rfl (hb hby own_d22_5)
  refine own_fs (st2 _ (Steps.refl _)) ?_
  show own_G p.tables e below _ (T2.setTop (mkF m 8 #[.val (.ref a1)] [(.ref al), (.ref al)]))
  have Zs5 : n0 ≤ h0.size := Z0
  obtain ⟨cq4, kq4, q4a, q4b, q4c⟩ := isOf hZ e2 hE_al
  obtain ⟨_, _, ⟨T4, L4, k4, n4⟩, -, X4, ⟨Lc4, hQ4, l4, y4, z4⟩, st4⟩ := X2.interfaceBack hx (xi := (⟨"java/util/List", "size", "()I"⟩ : MethodName)) (y := (⟨"java/util/ArrayList", "size", "()I"⟩ : MethodName)) hown (mvT hZ (hw _ (List.mem_of_getElem? (i := 129) rfl))) (mvT hZ (hw _ (List.mem_of_getElem? (i := 130) rfl))) (mvT hZ (hw _ (List.mem_of_getElem? (i := 131) rfl))) (mvT hZ (hw _ (List.mem_of_getElem? (i := 132) rfl))) (mvT hZ (hw _ (List.mem_of_getElem? (i := 133) rfl))) (mvT hZ (hw _ (List.mem_of_getElem? (i := 134) rfl))) (mvT hZ (hw _ (List.mem_of_getElem? (i := 135) rfl))) (mvT hZ (hw _ (List.mem_of_getElem? (i := 136) rfl))) (by decide) (backOf (W := 1) (own_alsize l Z a0 hw [] al (3 : Int32) h0 n0 Zs5 hF_size_al) hZ (hw _ (List.mem_of_getElem? (i := 137) rfl)) (hw _ (List.mem_of_getElem? (i := 37) rfl)) (by decide) (by decide)) q4a q4b q4c (g := (mkF m 8 #[.val (.ref a1)] [(.ref al), (.ref al)])) rfl (by rw [hml]; rfl) (Steps.refl _) (argsL := []) (rest := [(.ref al)]) (lenOf own_pd11 rfl) rfl (by show 2 * 0 + _ ≤ _; exact Nat.le_of_eq rfl) (hb hby own_d22_8) (fun _ _ => ⟨rfl, e2, (by decide : 0 + 0 ≤ _), (by decide : 0 + 0 ≤ _)⟩)
  dsimp only [Pt.U, Pt.locs, Pt.cells, Pt.slots] at X4 l4 y4 z4 st4 hQ4
  subst l4 y4 z4
  obtain ⟨rfl, Nq4, e4⟩ := hQ4
  have N4 := Fr.app N0 Nq4
  refine own_fs st4 ?_
  show own_G p.tables e below _ (T4.setTop (mkF m 13 #[.val (.ref a1)] [(.int (3 : Int32)), (.ref al)]))
  refine own_fs (XS.iconst X4.here hx rfl (hb hby own_d22_13) (Steps.refl _)) ?_
  show own_G p.tables e below _ (T4.setTop (mkF m 14 #[.val (.ref a1)] [(.int (1 : Int32)), (.int (3 : Int32)), (.ref al)]))
  refine own_fs (XS.isub X4.here hx rfl (hb hby own_d22_14) rfl (Steps.refl _)) ?_
  show own_G p.tables e below _ (T4.setTop (mkF m 15 #[.val (.ref a1)] [(.int (2 : Int32)), (.ref al)]))
  have Zs8 : n0 ≤ h0.size := Z0
  obtain ⟨cq7, kq7, q7a, q7b, q7c⟩ := isOf hZ e4 hE_al
  obtain ⟨_, _, ⟨T7, L7, k7, n7⟩, -, X7, ⟨Lc7, hQ7, l7, y7, z7⟩, st7⟩ := X4.interfaceBack hx (xi := (⟨"java/util/List", "get", "(I)Ljava/lang/Object;"⟩ : MethodName)) (y := (⟨"java/util/ArrayList", "get", "(I)Ljava/lang/Object;"⟩ : MethodName)) hown (mvT hZ (hw _ (List.mem_of_getElem? (i := 138) rfl))) (mvT hZ (hw _ (List.mem_of_getElem? (i := 139) rfl))) (mvT hZ (hw _ (List.mem_of_getElem? (i := 140) rfl))) (mvT hZ (hw _ (List.mem_of_getElem? (i := 141) rfl))) (mvT hZ (hw _ (List.mem_of_getElem? (i := 142) rfl))) (mvT hZ (hw _ (List.mem_of_getElem? (i := 143) rfl))) (mvT hZ (hw _ (List.mem_of_getElem? (i := 144) rfl))) (mvT hZ (hw _ (List.mem_of_getElem? (i := 136) rfl))) (by decide) (backOf (W := 0) (own_alget3 l Z a0 hw [] al el0 el1 el2 d1 kd h0 n0 Zs8 hE_al hF_size_al hF_elementData_al hV_d1) hZ (hw _ (List.mem_of_getElem? (i := 145) rfl)) (hw _ (List.mem_of_getElem? (i := 37) rfl)) (by decide) (by decide)) q7a q7b q7c (g := (mkF m 15 #[.val (.ref a1)] [(.int (2 : Int32)), (.ref al)])) rfl (by rw [hml]; rfl) (Steps.refl _) (argsL := [(.int (2 : Int32))]) (rest := []) (lenOf own_pd10 rfl) rfl (by show 2 * 0 + _ ≤ _; exact Nat.le_of_eq rfl) (hb hby own_d22_15) (fun _ _ => ⟨rfl, e4, (by decide : 0 + 0 ≤ _), (by decide : 0 + 0 ≤ _)⟩)
  dsimp only [Pt.U, Pt.locs, Pt.cells, Pt.slots] at X7 l7 y7 z7 st7 hQ7
  subst l7 y7 z7
  obtain ⟨rfl, Nq7, e7⟩ := hQ7
  have N7 := Fr.app N4 Nq7
  refine own_fs st7 ?_
  show own_G p.tables e below _ (T7.setTop (mkF m 20 #[.val (.ref a1)] [(.ref el2)]))
  obtain ⟨T9, X9, e9, st9⟩ := castY X7 hx hZ hown (hw _ (List.mem_of_getElem? (i := 159) rfl)) e7 (Ins.self hE_el2) (g := (mkF m 20 #[.val (.ref a1)] [(.ref el2)])) rfl rfl (hb hby own_d22_20)
  refine own_fs (st9 _ (Steps.refl _)) ?_
  show own_G p.tables e below _ (T9.setTop (mkF m 23 #[.val (.ref a1)] [(.ref el2)]))
  exact own_retA X9 hx (t := (.object "java/lang/String")) Bd.returns hlk rfl rfl (hb hby own_d22_23) (by decide) (by decide) e9 ⟨rfl, N7, rfl⟩
theorem own_streq_ef (m : MethodId) (x0 : Addr) (x1 : Addr) : entryFrame m #[(.ref x0), (.ref x1)] 3 = mkF m 0 #[.val (.ref x0), .val (.ref x1), .unset] [] := by first | (simp [entryFrame, mkF, argsToLocals, Value.category]; done) | rfl
def own_streq_Q (Z : State) (a1 : Addr) (h0 : Heap) (n0 : Nat) (v : Option Value) (h : Heap) (L : List Loc) : Prop := (v = some (.int (1 : Int32)) ∧ Fr n0 L ∧ h = h0)
set_option maxRecDepth 65536 in
set_option maxHeartbeats 40000000 in
theorem own_streq (l : Launch) (Z : State) (a0 : Array Value) (hw : ∀ d ∈ tables_1, d.before a0 Z = true) (ws : List Jvm.Cond) (a1 : Addr) (h0 : Heap) (n0 : Nat) (Z0 : n0 ≤ h0.size)  :
    MetFree l (⟨"java/lang/String", "equals", "(Ljava/lang/Object;)Z"⟩ : MethodName) (head1 (Jvm.Cond.code (⟨"java/lang/String", "equals", "(Ljava/lang/Object;)Z"⟩ : MethodName) jdk_42_method_66_code 3 (some .boolean) :: ws) ({ frames := 0, cells := 0, slots := 0, locals := 0 } : Room)) (fun a U => a = #[(.ref a1), (.ref a1)] ∧ Z.Warmed39 U.vm ∧ U.heap = h0) (fun _ _ _ _ _ => True) (fun _ U o U' => ∃ v L, o = .returned v ∧ own_streq_Q Z a1 h0 n0 v U'.heap L ∧ FrameEnd U o U' L ({ frames := 0, cells := 0, slots := 0, locals := 0 } : Room).cells ({ frames := 0, cells := 0, slots := 0, locals := 0 } : Room).slots) := by
  refine MetFree.of_bodySF (plainFor_of_name own_pn6) hisR ?_
  intro p e s m args below meth c s₁ Bd hml0 hP hK
  obtain ⟨rfl, hZ, hh⟩ := hP
  have hx := Bd.exec
  have hby := Bd.bytes
  have hlk : meth.locks = false := BodyLoose.notSynchronized Bd
  have hml : c.maxLocals = 3 := hml0
  have hown : s.vm.findClass "java/lang/String" = some m.cls := findClass_of_methodNamed Bd.named
  have hnm := (name_of_methodNamed Bd.named Bd.method).1
  have X0 : Stand p l e ({ frames := 0, cells := 0, slots := 0, locals := 0 } : Room) s m #[(.ref a1), (.ref a1)] below meth c s₁ [] 0 0 := Stand.of_body Bd
  have e0 : s₁.heap = h0 := by rw [← hh, Bd.state]; rfl
  have N0 := Fr.nil n0
  refine own_start (QQ := own_streq_Q Z a1 h0 n0) (rc := ({ frames := 0, cells := 0, slots := 0, locals := 0 } : Room).cells) (rs := ({ frames := 0, cells := 0, slots := 0, locals := 0 } : Room).slots) (own_streq_ef m a1 a1 ) ?_
  show own_G p.tables e below _ (s₁.setTop (mkF m 0 #[.val (.ref a1), .val (.ref a1), .unset] []))
  refine own_fs (XS.aloadN X0.here hx rfl (hb hby own_d28_0) rfl rfl (Steps.refl _)) ?_
  show own_G p.tables e below _ (s₁.setTop (mkF m 1 #[.val (.ref a1), .val (.ref a1), .unset] [(.ref a1)]))
  refine own_fs (XS.aloadN X0.here hx rfl (hb hby own_d28_1) rfl rfl (Steps.refl _)) ?_
  show own_G p.tables e below _ (s₁.setTop (mkF m 2 #[.val (.ref a1), .val (.ref a1), .unset] [(.ref a1), (.ref a1)]))
  refine own_fs (Jvm.RoadKit.acmp (g := (mkF m 2 #[.val (.ref a1), .val (.ref a1), .unset] [(.ref a1), (.ref a1)])) X0 hx rfl rfl rfl (pc0 := 2) (pc' := 5) (same := true) rfl (hb hby own_d28_2) rfl (decide_eq_true (congrArg Value.ref rfl)) (by decide) (by decide) (Steps.refl _)) ?_
  show own_G p.tables e below _ (s₁.setTop (mkF m 5 #[.val (.ref a1), .val (.ref a1), .unset] []))
  refine own_fs (XS.iconst X0.here hx rfl (hb hby own_d28_5) (Steps.refl _)) ?_
  show own_G p.tables e below _ (s₁.setTop (mkF m 6 #[.val (.ref a1), .val (.ref a1), .unset] [(.int (1 : Int32))]))
  exact own_retN X0 hx (t := .boolean) Bd.returns hlk (by simp) (hb hby own_d28_6) (by decide) (by decide) e0 ⟨own_nar1s, N0, rfl⟩
theorem own_law_ef (m : MethodId) (x0 : Int32) (x1 : Int32) (x2 : Int32) (x3 : Int32) (x4 : Int32) : entryFrame m #[(.int x0), (.int x1), (.int x2), (.int x3), (.int x4)] maxLocals = mkF m 0 #[.val (.int x0), .val (.int x1), .val (.int x2), .val (.int x3), .val (.int x4), .unset, .unset, .unset, .unset, .unset, .unset, .unset, .unset, .unset, .unset, .unset] [] := by first | (simp [entryFrame, mkF, argsToLocals, Value.category, maxLocals]; done) | rfl
def own_law_Q (Z : State) (x0 : Int32) (x1 : Int32) (x2 : Int32) (x3 : Int32) (x4 : Int32) (cz : Int32) (db : Addr) (dc : Cell) (h0 : Heap) (n0 : Nat) (v : Option Value) (h : Heap) (L : List Loc) : Prop := (v = some (.int (1 : Int32)) ∧ Fr n0 L)
set_option maxRecDepth 65536 in
set_option maxHeartbeats 40000000 in
theorem own_law (l : Launch) (Z : State) (a0 : Array Value) (hw : ∀ d ∈ tables_1, d.before a0 Z = true) (ws : List Jvm.Cond) (x0 : Int32) (x1 : Int32) (x2 : Int32) (x3 : Int32) (x4 : Int32) (cz : Int32) (db : Addr) (dc : Cell) (h0 : Heap) (n0 : Nat) (Z0 : n0 ≤ h0.size) (hSc : Sta Z Z.heap "java/lang/String" "COMPACT_STRINGS" "Z" (.int cz)) (hcz : ¬ (cz = (0 : Int32))) (hDef : own_Def Z db dc) (hOld : Old Z n0 h0) :
    MetFree l x (head1 (Jvm.Cond.code x code maxLocals ret :: ws) room_1) (fun a U => a = #[(.int x0), (.int x1), (.int x2), (.int x3), (.int x4)] ∧ Z.Warmed39 U.vm ∧ U.heap = h0) (fun _ _ _ _ _ => True) (fun _ U o U' => ∃ v L, o = .returned v ∧ own_law_Q Z x0 x1 x2 x3 x4 cz db dc h0 n0 v U'.heap L ∧ FrameEnd U o U' L room_1.cells room_1.slots) := by
  refine MetFree.of_bodySF (plainFor_of_name own_pn4) hisR ?_
  intro p e s m args below meth c s₁ Bd hml0 hP hK
  obtain ⟨rfl, hZ, hh⟩ := hP
  have hx := Bd.exec
  have hby := Bd.bytes
  have hlk : meth.locks = false := BodyLoose.notSynchronized Bd
  have hml : c.maxLocals = 16 := hml0
  have hown : s.vm.findClass "com/example/corbelpath/corbelpath/TargetFileNamePinLaw" = some m.cls := findClass_of_methodNamed Bd.named
  have hnm := (name_of_methodNamed Bd.named Bd.method).1
  have X0 : Stand p l e room_1 s m #[(.int x0), (.int x1), (.int x2), (.int x3), (.int x4)] below meth c s₁ [] 0 0 := Stand.of_body Bd
  have e0 : s₁.heap = h0 := by rw [← hh, Bd.state]; rfl
  have N0 := Fr.nil n0
  refine own_start (QQ := own_law_Q Z x0 x1 x2 x3 x4 cz db dc h0 n0) (rc := room_1.cells) (rs := room_1.slots) (own_law_ef m x0 x1 x2 x3 x4 ) ?_
  show own_G p.tables e below _ (s₁.setTop (mkF m 0 #[.val (.int x0), .val (.int x1), .val (.int x2), .val (.int x3), .val (.int x4), .unset, .unset, .unset, .unset, .unset, .unset, .unset, .unset, .unset, .unset, .unset] []))
  refine own_fs (XS.iloadN X0.here hx rfl (hb hby at_0) rfl (Steps.refl _)) ?_
  show own_G p.tables e below _ (s₁.setTop (mkF m 1 #[.val (.int x0), .val (.int x1), .val (.int x2), .val (.int x3), .val (.int x4), .unset, .unset, .unset, .unset, .unset, .unset, .unset, .unset, .unset, .unset, .unset] [(.int x3)]))
  refine own_fs (X0.ldcInt hx hown (mvT hZ (hw _ (List.mem_of_getElem? (i := 0) rfl))) (g := (mkF m 1 #[.val (.int x0), .val (.int x1), .val (.int x2), .val (.int x3), .val (.int x4), .unset, .unset, .unset, .unset, .unset, .unset, .unset, .unset, .unset, .unset, .unset] [(.int x3)])) rfl (hb hby at_1) _ (Steps.refl _)) ?_
  show own_G p.tables e below _ (s₁.setTop (mkF m 3 #[.val (.int x0), .val (.int x1), .val (.int x2), .val (.int x3), .val (.int x4), .unset, .unset, .unset, .unset, .unset, .unset, .unset, .unset, .unset, .unset, .unset] [(.int (2147483647 : Int32)), (.int x3)]))
  refine own_fs (XS.iand X0.here hx rfl (hb hby at_3) rfl (Steps.refl _)) ?_
  show own_G p.tables e below _ (s₁.setTop (mkF m 4 #[.val (.int x0), .val (.int x1), .val (.int x2), .val (.int x3), .val (.int x4), .unset, .unset, .unset, .unset, .unset, .unset, .unset, .unset, .unset, .unset, .unset] [(.int (x3 &&& (2147483647 : Int32)))]))
  refine own_fs (XS.iconst X0.here hx rfl (hb hby at_4) (Steps.refl _)) ?_
  show own_G p.tables e below _ (s₁.setTop (mkF m 5 #[.val (.int x0), .val (.int x1), .val (.int x2), .val (.int x3), .val (.int x4), .unset, .unset, .unset, .unset, .unset, .unset, .unset, .unset, .unset, .unset, .unset] [(.int (3 : Int32)), (.int (x3 &&& (2147483647 : Int32)))]))
  refine own_fs (iremM (g := (mkF m 5 #[.val (.int x0), .val (.int x1), .val (.int x2), .val (.int x3), .val (.int x4), .unset, .unset, .unset, .unset, .unset, .unset, .unset, .unset, .unset, .unset, .unset] [(.int (3 : Int32)), (.int (x3 &&& (2147483647 : Int32)))])) X0 hx rfl (hb hby at_5) rfl (by decide) (Steps.refl _)) ?_
  show own_G p.tables e below _ (s₁.setTop (mkF m 6 #[.val (.int x0), .val (.int x1), .val (.int x2), .val (.int x3), .val (.int x4), .unset, .unset, .unset, .unset, .unset, .unset, .unset, .unset, .unset, .unset, .unset] [(.int ((x3 &&& (2147483647 : Int32)) % (3 : Int32)))]))
  refine own_fs (XS.iconst X0.here hx rfl (hb hby at_6) (Steps.refl _)) ?_
  show own_G p.tables e below _ (s₁.setTop (mkF m 7 #[.val (.int x0), .val (.int x1), .val (.int x2), .val (.int x3), .val (.int x4), .unset, .unset, .unset, .unset, .unset, .unset, .unset, .unset, .unset, .unset, .unset] [(.int (1 : Int32)), (.int ((x3 &&& (2147483647 : Int32)) % (3 : Int32)))]))
  refine own_fs (XS.iadd X0.here hx rfl (hb hby at_7) rfl (Steps.refl _)) ?_
  show own_G p.tables e below _ (s₁.setTop (mkF m 8 #[.val (.int x0), .val (.int x1), .val (.int x2), .val (.int x3), .val (.int x4), .unset, .unset, .unset, .unset, .unset, .unset, .unset, .unset, .unset, .unset, .unset] [(.int (((x3 &&& (2147483647 : Int32)) % (3 : Int32)) + (1 : Int32)))]))
  refine own_fs (XS.istore X0.here hx rfl (hb hby at_8) rfl (l' := #[.val (.int x0), .val (.int x1), .val (.int x2), .val (.int x3), .val (.int x4), .val (.int (((x3 &&& (2147483647 : Int32)) % (3 : Int32)) + (1 : Int32))), .unset, .unset, .unset, .unset, .unset, .unset, .unset, .unset, .unset, .unset]) rfl (Steps.refl _)) ?_
  show own_G p.tables e below _ (s₁.setTop (mkF m 10 #[.val (.int x0), .val (.int x1), .val (.int x2), .val (.int x3), .val (.int x4), .val (.int (((x3 &&& (2147483647 : Int32)) % (3 : Int32)) + (1 : Int32))), .unset, .unset, .unset, .unset, .unset, .unset, .unset, .unset, .unset, .unset] []))
  refine own_fs (XS.iloadN X0.here hx rfl (hb hby at_10) rfl (Steps.refl _)) ?_
  show own_G p.tables e below _ (s₁.setTop (mkF m 11 #[.val (.int x0), .val (.int x1), .val (.int x2), .val (.int x3), .val (.int x4), .val (.int (((x3 &&& (2147483647 : Int32)) % (3 : Int32)) + (1 : Int32))), .unset, .unset, .unset, .unset, .unset, .unset, .unset, .unset, .unset, .unset] [(.int x0)]))
  have Zs4 : n0 ≤ h0.size := Z0
  obtain ⟨_, _, ⟨T3, L3, k3, n3⟩, -, X3, ⟨Lc3, hQ3, l3, y3, z3⟩, st3⟩ := Jvm.LawKit.callS X0 hx (y := (⟨"com/example/corbelpath/corbelpath/TargetFileNamePinLaw", "seg", "(I)Ljava/lang/String;"⟩ : MethodName)) hown (mvT hZ (hw _ (List.mem_of_getElem? (i := 1) rfl))) (mvT hZ (hw _ (List.mem_of_getElem? (i := 2) rfl))) (mvT hZ (hw _ (List.mem_of_getElem? (i := 3) rfl))) (mvT hZ (hw _ (List.mem_of_getElem? (i := 4) rfl))) (by decide) (backOf (W := 0) (own_seg l Z a0 hw [] x0 cz h0 n0 Zs4 hSc hcz hOld) hZ (hw _ (List.mem_of_getElem? (i := 4) rfl)) (hw _ (List.mem_of_getElem? (i := 3) rfl)) (by decide) (by decide)) (g := (mkF m 11 #[.val (.int x0), .val (.int x1), .val (.int x2), .val (.int x3), .val (.int x4), .val (.int (((x3 &&& (2147483647 : Int32)) % (3 : Int32)) + (1 : Int32))), .unset, .unset, .unset, .unset, .unset, .unset, .unset, .unset, .unset, .unset] [(.int x0)])) rfl (by rw [hml]; rfl) (argsL := [(.int x0)]) (rest := []) (lenOf own_pd12 rfl) rfl (by show 2 * 0 + _ ≤ _; exact Nat.le_of_eq rfl) (hb hby at_11) (fun _ _ => ⟨rfl, e0, (by decide : 0 + 3 ≤ _), (by decide : 0 + 8 ≤ _)⟩)
  dsimp only [Pt.U, Pt.locs, Pt.cells, Pt.slots] at X3 l3 y3 z3 st3 hQ3
  subst l3 y3 z3
  obtain ⟨h3, e3⟩ : ∃ h, T3.heap = h := ⟨_, rfl⟩
  rw [e3] at hQ3
  obtain ⟨sg1, rfl, Nq3, K3, P2_0, P2_1⟩ := hQ3
  have N3 := Fr.app N0 Nq3
  have ge_sg1 : n0 ≤ sg1 := Nat.le_trans Z0 P2_1
  have gz_sg1 : h0.size ≤ sg1 := Nat.le_trans (Nat.le_refl _) P2_1
  refine own_fs (st3 _ (Steps.refl _)) ?_
  show own_G p.tables e below _ (T3.setTop (mkF m 14 #[.val (.int x0), .val (.int x1), .val (.int x2), .val (.int x3), .val (.int x4), .val (.int (((x3 &&& (2147483647 : Int32)) % (3 : Int32)) + (1 : Int32))), .unset, .unset, .unset, .unset, .unset, .unset, .unset, .unset, .unset, .unset] [(.ref sg1)]))
  refine own_fs (XS.astore X3.here hx rfl (hb hby at_14) rfl rfl (l' := #[.val (.int x0), .val (.int x1), .val (.int x2), .val (.int x3), .val (.int x4), .val (.int (((x3 &&& (2147483647 : Int32)) % (3 : Int32)) + (1 : Int32))), .val (.ref sg1), .unset, .unset, .unset, .unset, .unset, .unset, .unset, .unset, .unset]) rfl (Steps.refl _)) ?_
  show own_G p.tables e below _ (T3.setTop (mkF m 16 #[.val (.int x0), .val (.int x1), .val (.int x2), .val (.int x3), .val (.int x4), .val (.int (((x3 &&& (2147483647 : Int32)) % (3 : Int32)) + (1 : Int32))), .val (.ref sg1), .unset, .unset, .unset, .unset, .unset, .unset, .unset, .unset, .unset] []))
  refine own_fs (XS.iloadN X3.here hx rfl (hb hby at_16) rfl (Steps.refl _)) ?_
  show own_G p.tables e below _ (T3.setTop (mkF m 17 #[.val (.int x0), .val (.int x1), .val (.int x2), .val (.int x3), .val (.int x4), .val (.int (((x3 &&& (2147483647 : Int32)) % (3 : Int32)) + (1 : Int32))), .val (.ref sg1), .unset, .unset, .unset, .unset, .unset, .unset, .unset, .unset, .unset] [(.int x1)]))
  have Zs8 : n0 ≤ h3.size := (Nat.le_trans Z0 K3.1)
  obtain ⟨_, _, ⟨T7, L7, k7, n7⟩, -, X7, ⟨Lc7, hQ7, l7, y7, z7⟩, st7⟩ := Jvm.LawKit.callS X3 hx (y := (⟨"com/example/corbelpath/corbelpath/TargetFileNamePinLaw", "seg", "(I)Ljava/lang/String;"⟩ : MethodName)) hown (mvT hZ (hw _ (List.mem_of_getElem? (i := 1) rfl))) (mvT hZ (hw _ (List.mem_of_getElem? (i := 2) rfl))) (mvT hZ (hw _ (List.mem_of_getElem? (i := 3) rfl))) (mvT hZ (hw _ (List.mem_of_getElem? (i := 4) rfl))) (by decide) (backOf (W := 0) (own_seg l Z a0 hw [] x1 cz h3 n0 Zs8 hSc hcz (Old.keep hOld K3 all0)) hZ (hw _ (List.mem_of_getElem? (i := 4) rfl)) (hw _ (List.mem_of_getElem? (i := 3) rfl)) (by decide) (by decide)) (g := (mkF m 17 #[.val (.int x0), .val (.int x1), .val (.int x2), .val (.int x3), .val (.int x4), .val (.int (((x3 &&& (2147483647 : Int32)) % (3 : Int32)) + (1 : Int32))), .val (.ref sg1), .unset, .unset, .unset, .unset, .unset, .unset, .unset, .unset, .unset] [(.int x1)])) rfl (by rw [hml]; rfl) (argsL := [(.int x1)]) (rest := []) (lenOf own_pd12 rfl) rfl (by show 2 * 0 + _ ≤ _; exact Nat.le_of_eq rfl) (hb hby at_17) (fun _ _ => ⟨rfl, e3, (by decide : 3 + 3 ≤ _), (by decide : 8 + 8 ≤ _)⟩)
  dsimp only [Pt.U, Pt.locs, Pt.cells, Pt.slots] at X7 l7 y7 z7 st7 hQ7
  subst l7 y7 z7
  obtain ⟨h7, e7⟩ : ∃ h, T7.heap = h := ⟨_, rfl⟩
  rw [e7] at hQ7
  obtain ⟨sg5, rfl, Nq7, K7, P6_0, P6_1⟩ := hQ7
  have N7 := Fr.app N3 Nq7
  have ge_sg5 : n0 ≤ sg5 := Nat.le_trans (Nat.le_trans Z0 K3.1) P6_1
  have gz_sg5 : h0.size ≤ sg5 := Nat.le_trans (Nat.le_trans (Nat.le_refl _) K3.1) P6_1
  refine own_fs (st7 _ (Steps.refl _)) ?_
  show own_G p.tables e below _ (T7.setTop (mkF m 20 #[.val (.int x0), .val (.int x1), .val (.int x2), .val (.int x3), .val (.int x4), .val (.int (((x3 &&& (2147483647 : Int32)) % (3 : Int32)) + (1 : Int32))), .val (.ref sg1), .unset, .unset, .unset, .unset, .unset, .unset, .unset, .unset, .unset] [(.ref sg5)]))
  refine own_fs (XS.astore X7.here hx rfl (hb hby at_20) rfl rfl (l' := #[.val (.int x0), .val (.int x1), .val (.int x2), .val (.int x3), .val (.int x4), .val (.int (((x3 &&& (2147483647 : Int32)) % (3 : Int32)) + (1 : Int32))), .val (.ref sg1), .val (.ref sg5), .unset, .unset, .unset, .unset, .unset, .unset, .unset, .unset]) rfl (Steps.refl _)) ?_
  show own_G p.tables e below _ (T7.setTop (mkF m 22 #[.val (.int x0), .val (.int x1), .val (.int x2), .val (.int x3), .val (.int x4), .val (.int (((x3 &&& (2147483647 : Int32)) % (3 : Int32)) + (1 : Int32))), .val (.ref sg1), .val (.ref sg5), .unset, .unset, .unset, .unset, .unset, .unset, .unset, .unset] []))
  refine own_fs (XS.iloadN X7.here hx rfl (hb hby at_22) rfl (Steps.refl _)) ?_
  show own_G p.tables e below _ (T7.setTop (mkF m 23 #[.val (.int x0), .val (.int x1), .val (.int x2), .val (.int x3), .val (.int x4), .val (.int (((x3 &&& (2147483647 : Int32)) % (3 : Int32)) + (1 : Int32))), .val (.ref sg1), .val (.ref sg5), .unset, .unset, .unset, .unset, .unset, .unset, .unset, .unset] [(.int x2)]))
  have Zs12 : n0 ≤ h7.size := (Nat.le_trans (Nat.le_trans Z0 K3.1) K7.1)
  obtain ⟨_, _, ⟨T11, L11, k11, n11⟩, -, X11, ⟨Lc11, hQ11, l11, y11, z11⟩, st11⟩ := Jvm.LawKit.callS X7 hx (y := (⟨"com/example/corbelpath/corbelpath/TargetFileNamePinLaw", "seg", "(I)Ljava/lang/String;"⟩ : MethodName)) hown (mvT hZ (hw _ (List.mem_of_getElem? (i := 1) rfl))) (mvT hZ (hw _ (List.mem_of_getElem? (i := 2) rfl))) (mvT hZ (hw _ (List.mem_of_getElem? (i := 3) rfl))) (mvT hZ (hw _ (List.mem_of_getElem? (i := 4) rfl))) (by decide) (backOf (W := 0) (own_seg l Z a0 hw [] x2 cz h7 n0 Zs12 hSc hcz (Old.keep (Old.keep hOld K3 all0) K7 all0)) hZ (hw _ (List.mem_of_getElem? (i := 4) rfl)) (hw _ (List.mem_of_getElem? (i := 3) rfl)) (by decide) (by decide)) (g := (mkF m 23 #[.val (.int x0), .val (.int x1), .val (.int x2), .val (.int x3), .val (.int x4), .val (.int (((x3 &&& (2147483647 : Int32)) % (3 : Int32)) + (1 : Int32))), .val (.ref sg1), .val (.ref sg5), .unset, .unset, .unset, .unset, .unset, .unset, .unset, .unset] [(.int x2)])) rfl (by rw [hml]; rfl) (argsL := [(.int x2)]) (rest := []) (lenOf own_pd12 rfl) rfl (by show 2 * 0 + _ ≤ _; exact Nat.le_of_eq rfl) (hb hby at_23) (fun _ _ => ⟨rfl, e7, (by decide : 6 + 3 ≤ _), (by decide : 16 + 8 ≤ _)⟩)
  dsimp only [Pt.U, Pt.locs, Pt.cells, Pt.slots] at X11 l11 y11 z11 st11 hQ11
  subst l11 y11 z11
  obtain ⟨h11, e11⟩ : ∃ h, T11.heap = h := ⟨_, rfl⟩
  rw [e11] at hQ11
  obtain ⟨sg9, rfl, Nq11, K11, P10_0, P10_1⟩ := hQ11
  have N11 := Fr.app N7 Nq11
  have ge_sg9 : n0 ≤ sg9 := Nat.le_trans (Nat.le_trans (Nat.le_trans Z0 K3.1) K7.1) P10_1
  have gz_sg9 : h0.size ≤ sg9 := Nat.le_trans (Nat.le_trans (Nat.le_trans (Nat.le_refl _) K3.1) K7.1) P10_1
  refine own_fs (st11 _ (Steps.refl _)) ?_
  show own_G p.tables e below _ (T11.setTop (mkF m 26 #[.val (.int x0), .val (.int x1), .val (.int x2), .val (.int x3), .val (.int x4), .val (.int (((x3 &&& (2147483647 : Int32)) % (3 : Int32)) + (1 : Int32))), .val (.ref sg1), .val (.ref sg5), .unset, .unset, .unset, .unset, .unset, .unset, .unset, .unset] [(.ref sg9)]))
  refine own_fs (XS.astore X11.here hx rfl (hb hby at_26) rfl rfl (l' := #[.val (.int x0), .val (.int x1), .val (.int x2), .val (.int x3), .val (.int x4), .val (.int (((x3 &&& (2147483647 : Int32)) % (3 : Int32)) + (1 : Int32))), .val (.ref sg1), .val (.ref sg5), .val (.ref sg9), .unset, .unset, .unset, .unset, .unset, .unset, .unset]) rfl (Steps.refl _)) ?_
  show own_G p.tables e below _ (T11.setTop (mkF m 28 #[.val (.int x0), .val (.int x1), .val (.int x2), .val (.int x3), .val (.int x4), .val (.int (((x3 &&& (2147483647 : Int32)) % (3 : Int32)) + (1 : Int32))), .val (.ref sg1), .val (.ref sg5), .val (.ref sg9), .unset, .unset, .unset, .unset, .unset, .unset, .unset] []))
  obtain ⟨T13, h13, X13, e13, E13, A13, D13, -, st13⟩ := newO X11 hx hZ hown (hw _ (List.mem_of_getElem? (i := 35) rfl)) (hw _ (List.mem_of_getElem? (i := 36) rfl)) (hw _ (List.mem_of_getElem? (i := 37) rfl)) e11 (g := (mkF m 28 #[.val (.int x0), .val (.int x1), .val (.int x2), .val (.int x3), .val (.int x4), .val (.int (((x3 &&& (2147483647 : Int32)) % (3 : Int32)) + (1 : Int32))), .val (.ref sg1), .val (.ref sg5), .val (.ref sg9), .unset, .unset, .unset, .unset, .unset, .unset, .unset] [])) rfl (hb hby at_28) (by decide) (by decide)
  obtain ⟨b13, g13⟩ : ∃ z, z = h11.size := ⟨_, rfl⟩
  rw [← g13] at A13 D13 st13
  have ge_b13 : n0 ≤ b13 := Nat.le_trans (Nat.le_trans (Nat.le_trans (Nat.le_trans Z0 K3.1) K7.1) K11.1) (Nat.le_of_eq g13.symm)
  have gz_b13 : h0.size ≤ b13 := Nat.le_trans (Nat.le_trans (Nat.le_trans (Nat.le_trans (Nat.le_refl _) K3.1) K7.1) K11.1) (Nat.le_of_eq g13.symm)
  have F_modCount_b13 : Fld Z h13 b13 "java/util/AbstractList" "modCount" "I" (.int (0 : Int32)) := D13 (Or.inl (hw _ (List.mem_of_getElem? (i := 55) rfl))) (ty := .int) (by decide)
  have F_elementData_b13 : Fld Z h13 b13 "java/util/ArrayList" "elementData" "[Ljava/lang/Object;" .null := D13 (Or.inl (hw _ (List.mem_of_getElem? (i := 58) rfl))) (ty := (.array (.object "java/lang/Object"))) (by decide)
  have F_size_b13 : Fld Z h13 b13 "java/util/ArrayList" "size" "I" (.int (0 : Int32)) := D13 (Or.inl (hw _ (List.mem_of_getElem? (i := 67) rfl))) (ty := .int) (by decide)
  refine own_fs (st13 _ (Steps.refl _)) ?_
  show own_G p.tables e below _ (T13.setTop (mkF m 31 #[.val (.int x0), .val (.int x1), .val (.int x2), .val (.int x3), .val (.int x4), .val (.int (((x3 &&& (2147483647 : Int32)) % (3 : Int32)) + (1 : Int32))), .val (.ref sg1), .val (.ref sg5), .val (.ref sg9), .unset, .unset, .unset, .unset, .unset, .unset, .unset] [(.ref b13)]))
  refine own_fs (XS.dup X13.here hx rfl (hb hby at_31) rfl rfl (Steps.refl _)) ?_
  show own_G p.tables e below _ (T13.setTop (mkF m 32 #[.val (.int x0), .val (.int x1), .val (.int x2), .val (.int x3), .val (.int x4), .val (.int (((x3 &&& (2147483647 : Int32)) % (3 : Int32)) + (1 : Int32))), .val (.ref sg1), .val (.ref sg5), .val (.ref sg9), .unset, .unset, .unset, .unset, .unset, .unset, .unset] [(.ref b13), (.ref b13)]))
  have Zs16 : n0 ≤ h13.size := (Nat.le_trans (Nat.le_trans (Nat.le_trans (Nat.le_trans Z0 K3.1) K7.1) K11.1) E13.1)
  obtain ⟨_, _, ⟨T15, L15, k15, n15⟩, -, X15, ⟨Lc15, hQ15, l15, y15, z15⟩, st15⟩ := X13.specialBack hx (y := (⟨"java/util/ArrayList", "<init>", "()V"⟩ : MethodName)) rfl hown (mvT hZ (hw _ (List.mem_of_getElem? (i := 38) rfl))) (mvT hZ (hw _ (List.mem_of_getElem? (i := 39) rfl))) (mvT hZ (hw _ (List.mem_of_getElem? (i := 40) rfl))) (by decide) (backOf (W := 1) (own_i_ArrayList l Z a0 hw [] b13 (0 : Int32) (.null) (0 : Int32) db dc h13 n0 Zs16 A13 F_modCount_b13 F_elementData_b13 F_size_b13 ge_b13 hDef (Old.ext (Old.keep (Old.keep (Old.keep hOld K3 all0) K7 all0) K11 all0) E13)) hZ (hw _ (List.mem_of_getElem? (i := 40) rfl)) (hw _ (List.mem_of_getElem? (i := 37) rfl)) (by decide) (by decide)) (g := (mkF m 32 #[.val (.int x0), .val (.int x1), .val (.int x2), .val (.int x3), .val (.int x4), .val (.int (((x3 &&& (2147483647 : Int32)) % (3 : Int32)) + (1 : Int32))), .val (.ref sg1), .val (.ref sg5), .val (.ref sg9), .unset, .unset, .unset, .unset, .unset, .unset, .unset] [(.ref b13), (.ref b13)])) rfl (by rw [hml]; rfl) (Steps.refl _) (a := b13) (argsL := []) (rest := [(.ref b13)]) (lenOf own_pd0 rfl) rfl (by show 2 * 0 + _ ≤ _; exact Nat.le_of_eq rfl) (hb hby at_32) (fun _ _ => ⟨rfl, e13, (by decide : 10 + 0 ≤ _), (by decide : 27 + 0 ≤ _)⟩)
  dsimp only [Pt.U, Pt.locs, Pt.cells, Pt.slots] at X15 l15 y15 z15 st15 hQ15
  subst l15 y15 z15
  obtain ⟨h15, e15⟩ : ∃ h, T15.heap = h := ⟨_, rfl⟩
  rw [e15] at hQ15
  obtain ⟨rfl, Nq15, K15, P14_0, P14_1, P14_2⟩ := hQ15
  have N15 := Fr.app N11 Nq15
  refine own_fs st15 ?_
  show own_G p.tables e below _ (T15.setTop (mkF m 35 #[.val (.int x0), .val (.int x1), .val (.int x2), .val (.int x3), .val (.int x4), .val (.int (((x3 &&& (2147483647 : Int32)) % (3 : Int32)) + (1 : Int32))), .val (.ref sg1), .val (.ref sg5), .val (.ref sg9), .unset, .unset, .unset, .unset, .unset, .unset, .unset] [(.ref b13)]))
  refine own_fs (XS.astore X15.here hx rfl (hb hby at_35) rfl rfl (l' := #[.val (.int x0), .val (.int x1), .val (.int x2), .val (.int x3), .val (.int x4), .val (.int (((x3 &&& (2147483647 : Int32)) % (3 : Int32)) + (1 : Int32))), .val (.ref sg1), .val (.ref sg5), .val (.ref sg9), .val (.ref b13), .unset, .unset, .unset, .unset, .unset, .unset]) rfl (Steps.refl _)) ?_
  show own_G p.tables e below _ (T15.setTop (mkF m 37 #[.val (.int x0), .val (.int x1), .val (.int x2), .val (.int x3), .val (.int x4), .val (.int (((x3 &&& (2147483647 : Int32)) % (3 : Int32)) + (1 : Int32))), .val (.ref sg1), .val (.ref sg5), .val (.ref sg9), .val (.ref b13), .unset, .unset, .unset, .unset, .unset, .unset] []))
  refine own_fs (XS.aload X15.here hx rfl (hb hby at_37) rfl rfl (Steps.refl _)) ?_
  show own_G p.tables e below _ (T15.setTop (mkF m 39 #[.val (.int x0), .val (.int x1), .val (.int x2), .val (.int x3), .val (.int x4), .val (.int (((x3 &&& (2147483647 : Int32)) % (3 : Int32)) + (1 : Int32))), .val (.ref sg1), .val (.ref sg5), .val (.ref sg9), .val (.ref b13), .unset, .unset, .unset, .unset, .unset, .unset] [(.ref b13)]))
  refine own_fs (XS.aload X15.here hx rfl (hb hby at_39) rfl rfl (Steps.refl _)) ?_
  show own_G p.tables e below _ (T15.setTop (mkF m 41 #[.val (.int x0), .val (.int x1), .val (.int x2), .val (.int x3), .val (.int x4), .val (.int (((x3 &&& (2147483647 : Int32)) % (3 : Int32)) + (1 : Int32))), .val (.ref sg1), .val (.ref sg5), .val (.ref sg9), .val (.ref b13), .unset, .unset, .unset, .unset, .unset, .unset] [(.ref sg1), (.ref b13)]))
  have Zs20 : n0 ≤ h15.size := (Nat.le_trans (Nat.le_trans (Nat.le_trans (Nat.le_trans (Nat.le_trans Z0 K3.1) K7.1) K11.1) E13.1) K15.1)
  obtain ⟨cq19, kq19, q19a, q19b, q19c⟩ := isOf hZ e15 (A13.keep K15)
  obtain ⟨_, _, ⟨T19, L19, k19, n19⟩, -, X19, ⟨Lc19, hQ19, l19, y19, z19⟩, st19⟩ := X15.virtualBack hx (y := (⟨"java/util/ArrayList", "add", "(Ljava/lang/Object;)Z"⟩ : MethodName)) (z := (⟨"java/util/ArrayList", "add", "(Ljava/lang/Object;)Z"⟩ : MethodName)) hown (mvT hZ (hw _ (List.mem_of_getElem? (i := 59) rfl))) (mvT hZ (hw _ (List.mem_of_getElem? (i := 60) rfl))) (notFace_of_selects (args := #[]) (mvT hZ (hw _ (List.mem_of_getElem? (i := 62) rfl)))) (mvT hZ (hw _ (List.mem_of_getElem? (i := 62) rfl))) (mvT hZ (hw _ (List.mem_of_getElem? (i := 61) rfl))) (by decide) (backOf (W := 0) (own_add0 l Z a0 hw [] b13 sg1 (0 : Int32) db dc h15 n0 Zs20 (A13.keep K15) P14_0 P14_1 P14_2 ge_b13 hDef (Old.keep (Old.ext (Old.keep (Old.keep (Old.keep hOld K3 all0) K7 all0) K11 all0) E13) K15 (allS ge_b13 all0)) ((Exa.ext E13 ((P2_0.keep K7).keep K11)).keep K15)) hZ (hw _ (List.mem_of_getElem? (i := 63) rfl)) (hw _ (List.mem_of_getElem? (i := 37) rfl)) (by decide) (by decide)) q19a q19c (g := (mkF m 41 #[.val (.int x0), .val (.int x1), .val (.int x2), .val (.int x3), .val (.int x4), .val (.int (((x3 &&& (2147483647 : Int32)) % (3 : Int32)) + (1 : Int32))), .val (.ref sg1), .val (.ref sg5), .val (.ref sg9), .val (.ref b13), .unset, .unset, .unset, .unset, .unset, .unset] [(.ref sg1), (.ref b13)])) rfl (by rw [hml]; rfl) (Steps.refl _) (argsL := [(.ref sg1)]) (rest := []) (lenOf own_pd13 rfl) rfl (by show 2 * 0 + _ ≤ _; exact Nat.le_of_eq rfl) (hb hby at_41) (fun _ _ => ⟨rfl, e15, (by decide : 10 + 1 ≤ _), (by decide : 27 + 10 ≤ _)⟩)
  dsimp only [Pt.U, Pt.locs, Pt.cells, Pt.slots] at X19 l19 y19 z19 st19 hQ19
  subst l19 y19 z19
  obtain ⟨h19, e19⟩ : ∃ h, T19.heap = h := ⟨_, rfl⟩
  rw [e19] at hQ19
  obtain ⟨br17, kr17, rfl, Nq19, K19, P18_0, P18_1, P18_2, P18_3, P18_4, P18_5⟩ := hQ19
  have N19 := Fr.app N15 Nq19
  have ge_br17 : n0 ≤ br17 := Nat.le_trans (Nat.le_trans (Nat.le_trans (Nat.le_trans (Nat.le_trans (Nat.le_trans Z0 K3.1) K7.1) K11.1) E13.1) K15.1) P18_3
  have gz_br17 : h0.size ≤ br17 := Nat.le_trans (Nat.le_trans (Nat.le_trans (Nat.le_trans (Nat.le_trans (Nat.le_trans (Nat.le_refl _) K3.1) K7.1) K11.1) E13.1) K15.1) P18_3
  refine own_fs st19 ?_
  show own_G p.tables e below _ (T19.setTop (mkF m 44 #[.val (.int x0), .val (.int x1), .val (.int x2), .val (.int x3), .val (.int x4), .val (.int (((x3 &&& (2147483647 : Int32)) % (3 : Int32)) + (1 : Int32))), .val (.ref sg1), .val (.ref sg5), .val (.ref sg9), .val (.ref b13), .unset, .unset, .unset, .unset, .unset, .unset] [(.int (1 : Int32))]))
  refine own_fs (XS.pop X19.here hx rfl (hb hby at_44) rfl rfl (Steps.refl _)) ?_
  show own_G p.tables e below _ (T19.setTop (mkF m 45 #[.val (.int x0), .val (.int x1), .val (.int x2), .val (.int x3), .val (.int x4), .val (.int (((x3 &&& (2147483647 : Int32)) % (3 : Int32)) + (1 : Int32))), .val (.ref sg1), .val (.ref sg5), .val (.ref sg9), .val (.ref b13), .unset, .unset, .unset, .unset, .unset, .unset] []))
  rcases own_cnt x3 with hn | hn | hn
  · rw [hn]
    show own_G p.tables e below _ (T19.setTop (mkF m 45 #[.val (.int x0), .val (.int x1), .val (.int x2), .val (.int x3), .val (.int x4), .val (.int (1 : Int32)), .val (.ref sg1), .val (.ref sg5), .val (.ref sg9), .val (.ref b13), .unset, .unset, .unset, .unset, .unset, .unset] []))
    refine own_fs (XS.iload X19.here hx rfl (hb hby at_45) rfl (Steps.refl _)) ?_
    show own_G p.tables e below _ (T19.setTop (mkF m 47 #[.val (.int x0), .val (.int x1), .val (.int x2), .val (.int x3), .val (.int x4), .val (.int (1 : Int32)), .val (.ref sg1), .val (.ref sg5), .val (.ref sg9), .val (.ref b13), .unset, .unset, .unset, .unset, .unset, .unset] [(.int (1 : Int32))]))
    refine own_fs (XS.iconst X19.here hx rfl (hb hby at_47) (Steps.refl _)) ?_
    show own_G p.tables e below _ (T19.setTop (mkF m 48 #[.val (.int x0), .val (.int x1), .val (.int x2), .val (.int x3), .val (.int x4), .val (.int (1 : Int32)), .val (.ref sg1), .val (.ref sg5), .val (.ref sg9), .val (.ref b13), .unset, .unset, .unset, .unset, .unset, .unset] [(.int (2 : Int32)), (.int (1 : Int32))]))
    refine own_fs (XS.icmpYes X19.here hx rfl (pc0 := 48) (pc' := 59) rfl (hb hby at_48) rfl (XT.ii_lt_t (by decide : (1 : Int32) < (2 : Int32))) (by decide) (by decide) (Steps.refl _)) ?_
    show own_G p.tables e below _ (T19.setTop (mkF m 59 #[.val (.int x0), .val (.int x1), .val (.int x2), .val (.int x3), .val (.int x4), .val (.int (1 : Int32)), .val (.ref sg1), .val (.ref sg5), .val (.ref sg9), .val (.ref b13), .unset, .unset, .unset, .unset, .unset, .unset] []))
    refine own_fs (XS.iload X19.here hx rfl (hb hby at_59) rfl (Steps.refl _)) ?_
    show own_G p.tables e below _ (T19.setTop (mkF m 61 #[.val (.int x0), .val (.int x1), .val (.int x2), .val (.int x3), .val (.int x4), .val (.int (1 : Int32)), .val (.ref sg1), .val (.ref sg5), .val (.ref sg9), .val (.ref b13), .unset, .unset, .unset, .unset, .unset, .unset] [(.int (1 : Int32))]))
    refine own_fs (XS.iconst X19.here hx rfl (hb hby at_61) (Steps.refl _)) ?_
    show own_G p.tables e below _ (T19.setTop (mkF m 62 #[.val (.int x0), .val (.int x1), .val (.int x2), .val (.int x3), .val (.int x4), .val (.int (1 : Int32)), .val (.ref sg1), .val (.ref sg5), .val (.ref sg9), .val (.ref b13), .unset, .unset, .unset, .unset, .unset, .unset] [(.int (3 : Int32)), (.int (1 : Int32))]))
    refine own_fs (XS.icmpYes X19.here hx rfl (pc0 := 62) (pc' := 73) rfl (hb hby at_62) rfl (XT.ii_lt_t (by decide : (1 : Int32) < (3 : Int32))) (by decide) (by decide) (Steps.refl _)) ?_
    show own_G p.tables e below _ (T19.setTop (mkF m 73 #[.val (.int x0), .val (.int x1), .val (.int x2), .val (.int x3), .val (.int x4), .val (.int (1 : Int32)), .val (.ref sg1), .val (.ref sg5), .val (.ref sg9), .val (.ref b13), .unset, .unset, .unset, .unset, .unset, .unset] []))
    refine own_fs (XS.iload X19.here hx rfl (hb hby at_73) rfl (Steps.refl _)) ?_
    show own_G p.tables e below _ (T19.setTop (mkF m 75 #[.val (.int x0), .val (.int x1), .val (.int x2), .val (.int x3), .val (.int x4), .val (.int (1 : Int32)), .val (.ref sg1), .val (.ref sg5), .val (.ref sg9), .val (.ref b13), .unset, .unset, .unset, .unset, .unset, .unset] [(.int (1 : Int32))]))
    refine own_fs (XS.iconst X19.here hx rfl (hb hby at_75) (Steps.refl _)) ?_
    show own_G p.tables e below _ (T19.setTop (mkF m 76 #[.val (.int x0), .val (.int x1), .val (.int x2), .val (.int x3), .val (.int x4), .val (.int (1 : Int32)), .val (.ref sg1), .val (.ref sg5), .val (.ref sg9), .val (.ref b13), .unset, .unset, .unset, .unset, .unset, .unset] [(.int (1 : Int32)), (.int (1 : Int32))]))
    refine own_fs (XS.icmpNo X19.here hx rfl (hb hby at_76) rfl (XT.ii_ne_f (by decide : (1 : Int32) = (1 : Int32))) (Steps.refl _)) ?_
    show own_G p.tables e below _ (T19.setTop (mkF m 79 #[.val (.int x0), .val (.int x1), .val (.int x2), .val (.int x3), .val (.int x4), .val (.int (1 : Int32)), .val (.ref sg1), .val (.ref sg5), .val (.ref sg9), .val (.ref b13), .unset, .unset, .unset, .unset, .unset, .unset] []))
    refine own_fs (XS.aload X19.here hx rfl (hb hby at_79) rfl rfl (Steps.refl _)) ?_
    show own_G p.tables e below _ (T19.setTop (mkF m 81 #[.val (.int x0), .val (.int x1), .val (.int x2), .val (.int x3), .val (.int x4), .val (.int (1 : Int32)), .val (.ref sg1), .val (.ref sg5), .val (.ref sg9), .val (.ref b13), .unset, .unset, .unset, .unset, .unset, .unset] [(.ref sg1)]))
    refine own_fs (XS.astore X19.here hx rfl (hb hby at_81) rfl rfl (l' := #[.val (.int x0), .val (.int x1), .val (.int x2), .val (.int x3), .val (.int x4), .val (.int (1 : Int32)), .val (.ref sg1), .val (.ref sg5), .val (.ref sg9), .val (.ref b13), .val (.ref sg1), .unset, .unset, .unset, .unset, .unset]) rfl (Steps.refl _)) ?_
    show own_G p.tables e below _ (T19.setTop (mkF m 83 #[.val (.int x0), .val (.int x1), .val (.int x2), .val (.int x3), .val (.int x4), .val (.int (1 : Int32)), .val (.ref sg1), .val (.ref sg5), .val (.ref sg9), .val (.ref b13), .val (.ref sg1), .unset, .unset, .unset, .unset, .unset] []))
    refine own_fs (XS.goto X19.here hx rfl (pc0 := 83) (pc' := 103) rfl (hb hby at_83) (by decide) (by decide) (Steps.refl _)) ?_
    show own_G p.tables e below _ (T19.setTop (mkF m 103 #[.val (.int x0), .val (.int x1), .val (.int x2), .val (.int x3), .val (.int x4), .val (.int (1 : Int32)), .val (.ref sg1), .val (.ref sg5), .val (.ref sg9), .val (.ref b13), .val (.ref sg1), .unset, .unset, .unset, .unset, .unset] []))
    refine own_fs (XS.iload X19.here hx rfl (hb hby at_103) rfl (Steps.refl _)) ?_
    show own_G p.tables e below _ (T19.setTop (mkF m 105 #[.val (.int x0), .val (.int x1), .val (.int x2), .val (.int x3), .val (.int x4), .val (.int (1 : Int32)), .val (.ref sg1), .val (.ref sg5), .val (.ref sg9), .val (.ref b13), .val (.ref sg1), .unset, .unset, .unset, .unset, .unset] [(.int x4)]))
    refine own_fs (XS.iconst X19.here hx rfl (hb hby at_105) (Steps.refl _)) ?_
    show own_G p.tables e below _ (T19.setTop (mkF m 106 #[.val (.int x0), .val (.int x1), .val (.int x2), .val (.int x3), .val (.int x4), .val (.int (1 : Int32)), .val (.ref sg1), .val (.ref sg5), .val (.ref sg9), .val (.ref b13), .val (.ref sg1), .unset, .unset, .unset, .unset, .unset] [(.int (1 : Int32)), (.int x4)]))
    refine own_fs (XS.iand X19.here hx rfl (hb hby at_106) rfl (Steps.refl _)) ?_
    show own_G p.tables e below _ (T19.setTop (mkF m 107 #[.val (.int x0), .val (.int x1), .val (.int x2), .val (.int x3), .val (.int x4), .val (.int (1 : Int32)), .val (.ref sg1), .val (.ref sg5), .val (.ref sg9), .val (.ref b13), .val (.ref sg1), .unset, .unset, .unset, .unset, .unset] [(.int (x4 &&& (1 : Int32)))]))
    by_cases hc107 : (x4 &&& (1 : Int32)) = (0 : Int32)
    · refine own_fs (XS.ifYes X19.here hx rfl (pc0 := 107) (pc' := 114) rfl (hb hby at_107) rfl (XT.i0_eq_t hc107) (by decide) (by decide) (Steps.refl _)) ?_
      show own_G p.tables e below _ (T19.setTop (mkF m 114 #[.val (.int x0), .val (.int x1), .val (.int x2), .val (.int x3), .val (.int x4), .val (.int (1 : Int32)), .val (.ref sg1), .val (.ref sg5), .val (.ref sg9), .val (.ref b13), .val (.ref sg1), .unset, .unset, .unset, .unset, .unset] []))
      refine own_fs (XS.iload X19.here hx rfl (hb hby at_114) rfl (Steps.refl _)) ?_
      show own_G p.tables e below _ (T19.setTop (mkF m 116 #[.val (.int x0), .val (.int x1), .val (.int x2), .val (.int x3), .val (.int x4), .val (.int (1 : Int32)), .val (.ref sg1), .val (.ref sg5), .val (.ref sg9), .val (.ref b13), .val (.ref sg1), .unset, .unset, .unset, .unset, .unset] [(.int x4)]))
      refine own_fs (XS.iconst X19.here hx rfl (hb hby at_116) (Steps.refl _)) ?_
      show own_G p.tables e below _ (T19.setTop (mkF m 117 #[.val (.int x0), .val (.int x1), .val (.int x2), .val (.int x3), .val (.int x4), .val (.int (1 : Int32)), .val (.ref sg1), .val (.ref sg5), .val (.ref sg9), .val (.ref b13), .val (.ref sg1), .unset, .unset, .unset, .unset, .unset] [(.int (1 : Int32)), (.int x4)]))
      refine own_fs (XS.iushr X19.here hx rfl (hb hby at_117) rfl (Steps.refl _)) ?_
      show own_G p.tables e below _ (T19.setTop (mkF m 118 #[.val (.int x0), .val (.int x1), .val (.int x2), .val (.int x3), .val (.int x4), .val (.int (1 : Int32)), .val (.ref sg1), .val (.ref sg5), .val (.ref sg9), .val (.ref b13), .val (.ref sg1), .unset, .unset, .unset, .unset, .unset] [(.int ((x4.toUInt32 >>> ((1 : Int32) &&& 31).toUInt32).toInt32))]))
      refine own_fs (XS.sipush X19.here hx rfl (hb hby at_118) (Steps.refl _)) ?_
      show own_G p.tables e below _ (T19.setTop (mkF m 121 #[.val (.int x0), .val (.int x1), .val (.int x2), .val (.int x3), .val (.int x4), .val (.int (1 : Int32)), .val (.ref sg1), .val (.ref sg5), .val (.ref sg9), .val (.ref b13), .val (.ref sg1), .unset, .unset, .unset, .unset, .unset] [(.int (255 : Int32)), (.int ((x4.toUInt32 >>> ((1 : Int32) &&& 31).toUInt32).toInt32))]))
      refine own_fs (XS.iand X19.here hx rfl (hb hby at_121) rfl (Steps.refl _)) ?_
      show own_G p.tables e below _ (T19.setTop (mkF m 122 #[.val (.int x0), .val (.int x1), .val (.int x2), .val (.int x3), .val (.int x4), .val (.int (1 : Int32)), .val (.ref sg1), .val (.ref sg5), .val (.ref sg9), .val (.ref b13), .val (.ref sg1), .unset, .unset, .unset, .unset, .unset] [(.int (((x4.toUInt32 >>> ((1 : Int32) &&& 31).toUInt32).toInt32) &&& (255 : Int32)))]))
      refine own_fs (XS.i2c X19.here hx rfl (hb hby at_122) rfl (Steps.refl _)) ?_
      show own_G p.tables e below _ (T19.setTop (mkF m 123 #[.val (.int x0), .val (.int x1), .val (.int x2), .val (.int x3), .val (.int x4), .val (.int (1 : Int32)), .val (.ref sg1), .val (.ref sg5), .val (.ref sg9), .val (.ref b13), .val (.ref sg1), .unset, .unset, .unset, .unset, .unset] [(.int ((((x4.toUInt32 >>> ((1 : Int32) &&& 31).toUInt32).toInt32) &&& (255 : Int32)).toUInt32.toUInt16.toUInt32.toInt32))]))
      have Zs24 : n0 ≤ h19.size := (Nat.le_trans (Nat.le_trans (Nat.le_trans (Nat.le_trans (Nat.le_trans (Nat.le_trans Z0 K3.1) K7.1) K11.1) E13.1) K15.1) K19.1)
      obtain ⟨_, _, ⟨T23, L23, k23, n23⟩, -, X23, ⟨Lc23, hQ23, l23, y23, z23⟩, st23⟩ := Jvm.LawKit.callS X19 hx (y := (⟨"java/lang/String", "valueOf", "(C)Ljava/lang/String;"⟩ : MethodName)) hown (mvT hZ (hw _ (List.mem_of_getElem? (i := 90) rfl))) (mvT hZ (hw _ (List.mem_of_getElem? (i := 91) rfl))) (mvT hZ (hw _ (List.mem_of_getElem? (i := 8) rfl))) (mvT hZ (hw _ (List.mem_of_getElem? (i := 92) rfl))) (by decide) (backOf (W := 0) (own_valueOfC l Z a0 hw [] ((((x4.toUInt32 >>> ((1 : Int32) &&& 31).toUInt32).toInt32) &&& (255 : Int32)).toUInt32.toUInt16.toUInt32.toInt32) cz h19 n0 Zs24 hSc hcz (Old.keep (Old.keep (Old.ext (Old.keep (Old.keep (Old.keep hOld K3 all0) K7 all0) K11 all0) E13) K15 (allS ge_b13 all0)) K19 (allS ge_b13 all0)) (own_ch _).2) hZ (hw _ (List.mem_of_getElem? (i := 92) rfl)) (hw _ (List.mem_of_getElem? (i := 8) rfl)) (by decide) (by decide)) (g := (mkF m 123 #[.val (.int x0), .val (.int x1), .val (.int x2), .val (.int x3), .val (.int x4), .val (.int (1 : Int32)), .val (.ref sg1), .val (.ref sg5), .val (.ref sg9), .val (.ref b13), .val (.ref sg1), .unset, .unset, .unset, .unset, .unset] [(.int ((((x4.toUInt32 >>> ((1 : Int32) &&& 31).toUInt32).toInt32) &&& (255 : Int32)).toUInt32.toUInt16.toUInt32.toInt32))])) rfl (by rw [hml]; rfl) (argsL := [(.int ((((x4.toUInt32 >>> ((1 : Int32) &&& 31).toUInt32).toInt32) &&& (255 : Int32)).toUInt32.toUInt16.toUInt32.toInt32))]) (rest := []) (lenOf own_pd14 rfl) rfl (by show 2 * 0 + _ ≤ _; exact Nat.le_of_eq rfl) (hb hby at_123) (fun _ _ => ⟨rfl, e19, (by decide : 11 + 2 ≤ _), (by decide : 37 + 5 ≤ _)⟩)
      dsimp only [Pt.U, Pt.locs, Pt.cells, Pt.slots] at X23 l23 y23 z23 st23 hQ23
      subst l23 y23 z23
      obtain ⟨h23, e23⟩ : ∃ h, T23.heap = h := ⟨_, rfl⟩
      rw [e23] at hQ23
      obtain ⟨sv21, rfl, Nq23, K23, P22_0, P22_1⟩ := hQ23
      have N23 := Fr.app N19 Nq23
      have ge_sv21 : n0 ≤ sv21 := Nat.le_trans (Nat.le_trans (Nat.le_trans (Nat.le_trans (Nat.le_trans (Nat.le_trans (Nat.le_trans Z0 K3.1) K7.1) K11.1) E13.1) K15.1) K19.1) P22_1
      have gz_sv21 : h0.size ≤ sv21 := Nat.le_trans (Nat.le_trans (Nat.le_trans (Nat.le_trans (Nat.le_trans (Nat.le_trans (Nat.le_trans (Nat.le_refl _) K3.1) K7.1) K11.1) E13.1) K15.1) K19.1) P22_1
      refine own_fs (st23 _ (Steps.refl _)) ?_
      show own_G p.tables e below _ (T23.setTop (mkF m 126 #[.val (.int x0), .val (.int x1), .val (.int x2), .val (.int x3), .val (.int x4), .val (.int (1 : Int32)), .val (.ref sg1), .val (.ref sg5), .val (.ref sg9), .val (.ref b13), .val (.ref sg1), .unset, .unset, .unset, .unset, .unset] [(.ref sv21)]))
      refine own_fs (XS.astore X23.here hx rfl (hb hby at_126) rfl rfl (l' := #[.val (.int x0), .val (.int x1), .val (.int x2), .val (.int x3), .val (.int x4), .val (.int (1 : Int32)), .val (.ref sg1), .val (.ref sg5), .val (.ref sg9), .val (.ref b13), .val (.ref sg1), .val (.ref sv21), .unset, .unset, .unset, .unset]) rfl (Steps.refl _)) ?_
      show own_G p.tables e below _ (T23.setTop (mkF m 128 #[.val (.int x0), .val (.int x1), .val (.int x2), .val (.int x3), .val (.int x4), .val (.int (1 : Int32)), .val (.ref sg1), .val (.ref sg5), .val (.ref sg9), .val (.ref b13), .val (.ref sg1), .val (.ref sv21), .unset, .unset, .unset, .unset] []))
      refine own_fs (XS.iload X23.here hx rfl (hb hby at_128) rfl (Steps.refl _)) ?_
      show own_G p.tables e below _ (T23.setTop (mkF m 130 #[.val (.int x0), .val (.int x1), .val (.int x2), .val (.int x3), .val (.int x4), .val (.int (1 : Int32)), .val (.ref sg1), .val (.ref sg5), .val (.ref sg9), .val (.ref b13), .val (.ref sg1), .val (.ref sv21), .unset, .unset, .unset, .unset] [(.int x4)]))
      refine own_fs (XS.bipush X23.here hx rfl (hb hby at_130) (Steps.refl _)) ?_
      show own_G p.tables e below _ (T23.setTop (mkF m 132 #[.val (.int x0), .val (.int x1), .val (.int x2), .val (.int x3), .val (.int x4), .val (.int (1 : Int32)), .val (.ref sg1), .val (.ref sg5), .val (.ref sg9), .val (.ref b13), .val (.ref sg1), .val (.ref sv21), .unset, .unset, .unset, .unset] [(.int (9 : Int32)), (.int x4)]))
      refine own_fs (XS.iushr X23.here hx rfl (hb hby at_132) rfl (Steps.refl _)) ?_
      show own_G p.tables e below _ (T23.setTop (mkF m 133 #[.val (.int x0), .val (.int x1), .val (.int x2), .val (.int x3), .val (.int x4), .val (.int (1 : Int32)), .val (.ref sg1), .val (.ref sg5), .val (.ref sg9), .val (.ref b13), .val (.ref sg1), .val (.ref sv21), .unset, .unset, .unset, .unset] [(.int ((x4.toUInt32 >>> ((9 : Int32) &&& 31).toUInt32).toInt32))]))
      refine own_fs (XS.sipush X23.here hx rfl (hb hby at_133) (Steps.refl _)) ?_
      show own_G p.tables e below _ (T23.setTop (mkF m 136 #[.val (.int x0), .val (.int x1), .val (.int x2), .val (.int x3), .val (.int x4), .val (.int (1 : Int32)), .val (.ref sg1), .val (.ref sg5), .val (.ref sg9), .val (.ref b13), .val (.ref sg1), .val (.ref sv21), .unset, .unset, .unset, .unset] [(.int (255 : Int32)), (.int ((x4.toUInt32 >>> ((9 : Int32) &&& 31).toUInt32).toInt32))]))
      refine own_fs (XS.iand X23.here hx rfl (hb hby at_136) rfl (Steps.refl _)) ?_
      show own_G p.tables e below _ (T23.setTop (mkF m 137 #[.val (.int x0), .val (.int x1), .val (.int x2), .val (.int x3), .val (.int x4), .val (.int (1 : Int32)), .val (.ref sg1), .val (.ref sg5), .val (.ref sg9), .val (.ref b13), .val (.ref sg1), .val (.ref sv21), .unset, .unset, .unset, .unset] [(.int (((x4.toUInt32 >>> ((9 : Int32) &&& 31).toUInt32).toInt32) &&& (255 : Int32)))]))
      refine own_fs (XS.i2c X23.here hx rfl (hb hby at_137) rfl (Steps.refl _)) ?_
      show own_G p.tables e below _ (T23.setTop (mkF m 138 #[.val (.int x0), .val (.int x1), .val (.int x2), .val (.int x3), .val (.int x4), .val (.int (1 : Int32)), .val (.ref sg1), .val (.ref sg5), .val (.ref sg9), .val (.ref b13), .val (.ref sg1), .val (.ref sv21), .unset, .unset, .unset, .unset] [(.int ((((x4.toUInt32 >>> ((9 : Int32) &&& 31).toUInt32).toInt32) &&& (255 : Int32)).toUInt32.toUInt16.toUInt32.toInt32))]))
      have Zs28 : n0 ≤ h23.size := (Nat.le_trans (Nat.le_trans (Nat.le_trans (Nat.le_trans (Nat.le_trans (Nat.le_trans (Nat.le_trans Z0 K3.1) K7.1) K11.1) E13.1) K15.1) K19.1) K23.1)
      obtain ⟨_, _, ⟨T27, L27, k27, n27⟩, -, X27, ⟨Lc27, hQ27, l27, y27, z27⟩, st27⟩ := Jvm.LawKit.callS X23 hx (y := (⟨"java/lang/String", "valueOf", "(C)Ljava/lang/String;"⟩ : MethodName)) hown (mvT hZ (hw _ (List.mem_of_getElem? (i := 90) rfl))) (mvT hZ (hw _ (List.mem_of_getElem? (i := 91) rfl))) (mvT hZ (hw _ (List.mem_of_getElem? (i := 8) rfl))) (mvT hZ (hw _ (List.mem_of_getElem? (i := 92) rfl))) (by decide) (backOf (W := 0) (own_valueOfC l Z a0 hw [] ((((x4.toUInt32 >>> ((9 : Int32) &&& 31).toUInt32).toInt32) &&& (255 : Int32)).toUInt32.toUInt16.toUInt32.toInt32) cz h23 n0 Zs28 hSc hcz (Old.keep (Old.keep (Old.keep (Old.ext (Old.keep (Old.keep (Old.keep hOld K3 all0) K7 all0) K11 all0) E13) K15 (allS ge_b13 all0)) K19 (allS ge_b13 all0)) K23 all0) (own_ch _).2) hZ (hw _ (List.mem_of_getElem? (i := 92) rfl)) (hw _ (List.mem_of_getElem? (i := 8) rfl)) (by decide) (by decide)) (g := (mkF m 138 #[.val (.int x0), .val (.int x1), .val (.int x2), .val (.int x3), .val (.int x4), .val (.int (1 : Int32)), .val (.ref sg1), .val (.ref sg5), .val (.ref sg9), .val (.ref b13), .val (.ref sg1), .val (.ref sv21), .unset, .unset, .unset, .unset] [(.int ((((x4.toUInt32 >>> ((9 : Int32) &&& 31).toUInt32).toInt32) &&& (255 : Int32)).toUInt32.toUInt16.toUInt32.toInt32))])) rfl (by rw [hml]; rfl) (argsL := [(.int ((((x4.toUInt32 >>> ((9 : Int32) &&& 31).toUInt32).toInt32) &&& (255 : Int32)).toUInt32.toUInt16.toUInt32.toInt32))]) (rest := []) (lenOf own_pd14 rfl) rfl (by show 2 * 0 + _ ≤ _; exact Nat.le_of_eq rfl) (hb hby at_138) (fun _ _ => ⟨rfl, e23, (by decide : 13 + 2 ≤ _), (by decide : 42 + 5 ≤ _)⟩)
      dsimp only [Pt.U, Pt.locs, Pt.cells, Pt.slots] at X27 l27 y27 z27 st27 hQ27
      subst l27 y27 z27
      obtain ⟨h27, e27⟩ : ∃ h, T27.heap = h := ⟨_, rfl⟩
      rw [e27] at hQ27
      obtain ⟨sv25, rfl, Nq27, K27, P26_0, P26_1⟩ := hQ27
      have N27 := Fr.app N23 Nq27
      have ge_sv25 : n0 ≤ sv25 := Nat.le_trans (Nat.le_trans (Nat.le_trans (Nat.le_trans (Nat.le_trans (Nat.le_trans (Nat.le_trans (Nat.le_trans Z0 K3.1) K7.1) K11.1) E13.1) K15.1) K19.1) K23.1) P26_1
      have gz_sv25 : h0.size ≤ sv25 := Nat.le_trans (Nat.le_trans (Nat.le_trans (Nat.le_trans (Nat.le_trans (Nat.le_trans (Nat.le_trans (Nat.le_trans (Nat.le_refl _) K3.1) K7.1) K11.1) E13.1) K15.1) K19.1) K23.1) P26_1
      refine own_fs (st27 _ (Steps.refl _)) ?_
      show own_G p.tables e below _ (T27.setTop (mkF m 141 #[.val (.int x0), .val (.int x1), .val (.int x2), .val (.int x3), .val (.int x4), .val (.int (1 : Int32)), .val (.ref sg1), .val (.ref sg5), .val (.ref sg9), .val (.ref b13), .val (.ref sg1), .val (.ref sv21), .unset, .unset, .unset, .unset] [(.ref sv25)]))
      refine own_fs (XS.astore X27.here hx rfl (hb hby at_141) rfl rfl (l' := #[.val (.int x0), .val (.int x1), .val (.int x2), .val (.int x3), .val (.int x4), .val (.int (1 : Int32)), .val (.ref sg1), .val (.ref sg5), .val (.ref sg9), .val (.ref b13), .val (.ref sg1), .val (.ref sv21), .val (.ref sv25), .unset, .unset, .unset]) rfl (Steps.refl _)) ?_
      show own_G p.tables e below _ (T27.setTop (mkF m 143 #[.val (.int x0), .val (.int x1), .val (.int x2), .val (.int x3), .val (.int x4), .val (.int (1 : Int32)), .val (.ref sg1), .val (.ref sg5), .val (.ref sg9), .val (.ref b13), .val (.ref sg1), .val (.ref sv21), .val (.ref sv25), .unset, .unset, .unset] []))
      refine own_fs (XS.iload X27.here hx rfl (hb hby at_143) rfl (Steps.refl _)) ?_
      show own_G p.tables e below _ (T27.setTop (mkF m 145 #[.val (.int x0), .val (.int x1), .val (.int x2), .val (.int x3), .val (.int x4), .val (.int (1 : Int32)), .val (.ref sg1), .val (.ref sg5), .val (.ref sg9), .val (.ref b13), .val (.ref sg1), .val (.ref sv21), .val (.ref sv25), .unset, .unset, .unset] [(.int x4)]))
      refine own_fs (XS.bipush X27.here hx rfl (hb hby at_145) (Steps.refl _)) ?_
      show own_G p.tables e below _ (T27.setTop (mkF m 147 #[.val (.int x0), .val (.int x1), .val (.int x2), .val (.int x3), .val (.int x4), .val (.int (1 : Int32)), .val (.ref sg1), .val (.ref sg5), .val (.ref sg9), .val (.ref b13), .val (.ref sg1), .val (.ref sv21), .val (.ref sv25), .unset, .unset, .unset] [(.int (17 : Int32)), (.int x4)]))
      refine own_fs (XS.iushr X27.here hx rfl (hb hby at_147) rfl (Steps.refl _)) ?_
      show own_G p.tables e below _ (T27.setTop (mkF m 148 #[.val (.int x0), .val (.int x1), .val (.int x2), .val (.int x3), .val (.int x4), .val (.int (1 : Int32)), .val (.ref sg1), .val (.ref sg5), .val (.ref sg9), .val (.ref b13), .val (.ref sg1), .val (.ref sv21), .val (.ref sv25), .unset, .unset, .unset] [(.int ((x4.toUInt32 >>> ((17 : Int32) &&& 31).toUInt32).toInt32))]))
      refine own_fs (XS.sipush X27.here hx rfl (hb hby at_148) (Steps.refl _)) ?_
      show own_G p.tables e below _ (T27.setTop (mkF m 151 #[.val (.int x0), .val (.int x1), .val (.int x2), .val (.int x3), .val (.int x4), .val (.int (1 : Int32)), .val (.ref sg1), .val (.ref sg5), .val (.ref sg9), .val (.ref b13), .val (.ref sg1), .val (.ref sv21), .val (.ref sv25), .unset, .unset, .unset] [(.int (255 : Int32)), (.int ((x4.toUInt32 >>> ((17 : Int32) &&& 31).toUInt32).toInt32))]))
      refine own_fs (XS.iand X27.here hx rfl (hb hby at_151) rfl (Steps.refl _)) ?_
      show own_G p.tables e below _ (T27.setTop (mkF m 152 #[.val (.int x0), .val (.int x1), .val (.int x2), .val (.int x3), .val (.int x4), .val (.int (1 : Int32)), .val (.ref sg1), .val (.ref sg5), .val (.ref sg9), .val (.ref b13), .val (.ref sg1), .val (.ref sv21), .val (.ref sv25), .unset, .unset, .unset] [(.int (((x4.toUInt32 >>> ((17 : Int32) &&& 31).toUInt32).toInt32) &&& (255 : Int32)))]))
      refine own_fs (XS.i2c X27.here hx rfl (hb hby at_152) rfl (Steps.refl _)) ?_
      show own_G p.tables e below _ (T27.setTop (mkF m 153 #[.val (.int x0), .val (.int x1), .val (.int x2), .val (.int x3), .val (.int x4), .val (.int (1 : Int32)), .val (.ref sg1), .val (.ref sg5), .val (.ref sg9), .val (.ref b13), .val (.ref sg1), .val (.ref sv21), .val (.ref sv25), .unset, .unset, .unset] [(.int ((((x4.toUInt32 >>> ((17 : Int32) &&& 31).toUInt32).toInt32) &&& (255 : Int32)).toUInt32.toUInt16.toUInt32.toInt32))]))
      have Zs32 : n0 ≤ h27.size := (Nat.le_trans (Nat.le_trans (Nat.le_trans (Nat.le_trans (Nat.le_trans (Nat.le_trans (Nat.le_trans (Nat.le_trans Z0 K3.1) K7.1) K11.1) E13.1) K15.1) K19.1) K23.1) K27.1)
      obtain ⟨_, _, ⟨T31, L31, k31, n31⟩, -, X31, ⟨Lc31, hQ31, l31, y31, z31⟩, st31⟩ := Jvm.LawKit.callS X27 hx (y := (⟨"java/lang/String", "valueOf", "(C)Ljava/lang/String;"⟩ : MethodName)) hown (mvT hZ (hw _ (List.mem_of_getElem? (i := 90) rfl))) (mvT hZ (hw _ (List.mem_of_getElem? (i := 91) rfl))) (mvT hZ (hw _ (List.mem_of_getElem? (i := 8) rfl))) (mvT hZ (hw _ (List.mem_of_getElem? (i := 92) rfl))) (by decide) (backOf (W := 0) (own_valueOfC l Z a0 hw [] ((((x4.toUInt32 >>> ((17 : Int32) &&& 31).toUInt32).toInt32) &&& (255 : Int32)).toUInt32.toUInt16.toUInt32.toInt32) cz h27 n0 Zs32 hSc hcz (Old.keep (Old.keep (Old.keep (Old.keep (Old.ext (Old.keep (Old.keep (Old.keep hOld K3 all0) K7 all0) K11 all0) E13) K15 (allS ge_b13 all0)) K19 (allS ge_b13 all0)) K23 all0) K27 all0) (own_ch _).2) hZ (hw _ (List.mem_of_getElem? (i := 92) rfl)) (hw _ (List.mem_of_getElem? (i := 8) rfl)) (by decide) (by decide)) (g := (mkF m 153 #[.val (.int x0), .val (.int x1), .val (.int x2), .val (.int x3), .val (.int x4), .val (.int (1 : Int32)), .val (.ref sg1), .val (.ref sg5), .val (.ref sg9), .val (.ref b13), .val (.ref sg1), .val (.ref sv21), .val (.ref sv25), .unset, .unset, .unset] [(.int ((((x4.toUInt32 >>> ((17 : Int32) &&& 31).toUInt32).toInt32) &&& (255 : Int32)).toUInt32.toUInt16.toUInt32.toInt32))])) rfl (by rw [hml]; rfl) (argsL := [(.int ((((x4.toUInt32 >>> ((17 : Int32) &&& 31).toUInt32).toInt32) &&& (255 : Int32)).toUInt32.toUInt16.toUInt32.toInt32))]) (rest := []) (lenOf own_pd14 rfl) rfl (by show 2 * 0 + _ ≤ _; exact Nat.le_of_eq rfl) (hb hby at_153) (fun _ _ => ⟨rfl, e27, (by decide : 15 + 2 ≤ _), (by decide : 47 + 5 ≤ _)⟩)
      dsimp only [Pt.U, Pt.locs, Pt.cells, Pt.slots] at X31 l31 y31 z31 st31 hQ31
      subst l31 y31 z31
      obtain ⟨h31, e31⟩ : ∃ h, T31.heap = h := ⟨_, rfl⟩
      rw [e31] at hQ31
      obtain ⟨sv29, rfl, Nq31, K31, P30_0, P30_1⟩ := hQ31
      have N31 := Fr.app N27 Nq31
      have ge_sv29 : n0 ≤ sv29 := Nat.le_trans (Nat.le_trans (Nat.le_trans (Nat.le_trans (Nat.le_trans (Nat.le_trans (Nat.le_trans (Nat.le_trans (Nat.le_trans Z0 K3.1) K7.1) K11.1) E13.1) K15.1) K19.1) K23.1) K27.1) P30_1
      have gz_sv29 : h0.size ≤ sv29 := Nat.le_trans (Nat.le_trans (Nat.le_trans (Nat.le_trans (Nat.le_trans (Nat.le_trans (Nat.le_trans (Nat.le_trans (Nat.le_trans (Nat.le_refl _) K3.1) K7.1) K11.1) E13.1) K15.1) K19.1) K23.1) K27.1) P30_1
      refine own_fs (st31 _ (Steps.refl _)) ?_
      show own_G p.tables e below _ (T31.setTop (mkF m 156 #[.val (.int x0), .val (.int x1), .val (.int x2), .val (.int x3), .val (.int x4), .val (.int (1 : Int32)), .val (.ref sg1), .val (.ref sg5), .val (.ref sg9), .val (.ref b13), .val (.ref sg1), .val (.ref sv21), .val (.ref sv25), .unset, .unset, .unset] [(.ref sv29)]))
      refine own_fs (XS.astore X31.here hx rfl (hb hby at_156) rfl rfl (l' := #[.val (.int x0), .val (.int x1), .val (.int x2), .val (.int x3), .val (.int x4), .val (.int (1 : Int32)), .val (.ref sg1), .val (.ref sg5), .val (.ref sg9), .val (.ref b13), .val (.ref sg1), .val (.ref sv21), .val (.ref sv25), .val (.ref sv29), .unset, .unset]) rfl (Steps.refl _)) ?_
      show own_G p.tables e below _ (T31.setTop (mkF m 158 #[.val (.int x0), .val (.int x1), .val (.int x2), .val (.int x3), .val (.int x4), .val (.int (1 : Int32)), .val (.ref sg1), .val (.ref sg5), .val (.ref sg9), .val (.ref b13), .val (.ref sg1), .val (.ref sv21), .val (.ref sv25), .val (.ref sv29), .unset, .unset] []))
      obtain ⟨T33, h33, X33, e33, E33, A33, D33, -, st33⟩ := newO X31 hx hZ hown (hw _ (List.mem_of_getElem? (i := 104) rfl)) (hw _ (List.mem_of_getElem? (i := 105) rfl)) (hw _ (List.mem_of_getElem? (i := 106) rfl)) e31 (g := (mkF m 158 #[.val (.int x0), .val (.int x1), .val (.int x2), .val (.int x3), .val (.int x4), .val (.int (1 : Int32)), .val (.ref sg1), .val (.ref sg5), .val (.ref sg9), .val (.ref b13), .val (.ref sg1), .val (.ref sv21), .val (.ref sv25), .val (.ref sv29), .unset, .unset] [])) rfl (hb hby at_158) (by decide) (by decide)
      obtain ⟨b33, g33⟩ : ∃ z, z = h31.size := ⟨_, rfl⟩
      rw [← g33] at A33 D33 st33
      have ge_b33 : n0 ≤ b33 := Nat.le_trans (Nat.le_trans (Nat.le_trans (Nat.le_trans (Nat.le_trans (Nat.le_trans (Nat.le_trans (Nat.le_trans (Nat.le_trans (Nat.le_trans Z0 K3.1) K7.1) K11.1) E13.1) K15.1) K19.1) K23.1) K27.1) K31.1) (Nat.le_of_eq g33.symm)
      have gz_b33 : h0.size ≤ b33 := Nat.le_trans (Nat.le_trans (Nat.le_trans (Nat.le_trans (Nat.le_trans (Nat.le_trans (Nat.le_trans (Nat.le_trans (Nat.le_trans (Nat.le_trans (Nat.le_refl _) K3.1) K7.1) K11.1) E13.1) K15.1) K19.1) K23.1) K27.1) K31.1) (Nat.le_of_eq g33.symm)
      have F_version_b33 : Fld Z h33 b33 "com/example/corbelpath/corbelpath/Deployment$Target" "version" "Ljava/lang/String;" .null := D33 (Or.inr (hw _ (List.mem_of_getElem? (i := 117) rfl))) (ty := (.object "java/lang/String")) (by decide)
      have F_locale_b33 : Fld Z h33 b33 "com/example/corbelpath/corbelpath/Deployment$Target" "locale" "Ljava/lang/String;" .null := D33 (Or.inr (hw _ (List.mem_of_getElem? (i := 119) rfl))) (ty := (.object "java/lang/String")) (by decide)
      have F_library_b33 : Fld Z h33 b33 "com/example/corbelpath/corbelpath/Deployment$Target" "library" "Ljava/lang/String;" .null := D33 (Or.inr (hw _ (List.mem_of_getElem? (i := 121) rfl))) (ty := (.object "java/lang/String")) (by decide)
      have F_path_b33 : Fld Z h33 b33 "com/example/corbelpath/corbelpath/Deployment$Target" "path" "Ljava/util/List;" .null := D33 (Or.inr (hw _ (List.mem_of_getElem? (i := 123) rfl))) (ty := (.object "java/util/List")) (by decide)
      refine own_fs (st33 _ (Steps.refl _)) ?_
      show own_G p.tables e below _ (T33.setTop (mkF m 161 #[.val (.int x0), .val (.int x1), .val (.int x2), .val (.int x3), .val (.int x4), .val (.int (1 : Int32)), .val (.ref sg1), .val (.ref sg5), .val (.ref sg9), .val (.ref b13), .val (.ref sg1), .val (.ref sv21), .val (.ref sv25), .val (.ref sv29), .unset, .unset] [(.ref b33)]))
      refine own_fs (XS.dup X33.here hx rfl (hb hby at_161) rfl rfl (Steps.refl _)) ?_
      show own_G p.tables e below _ (T33.setTop (mkF m 162 #[.val (.int x0), .val (.int x1), .val (.int x2), .val (.int x3), .val (.int x4), .val (.int (1 : Int32)), .val (.ref sg1), .val (.ref sg5), .val (.ref sg9), .val (.ref b13), .val (.ref sg1), .val (.ref sv21), .val (.ref sv25), .val (.ref sv29), .unset, .unset] [(.ref b33), (.ref b33)]))
      refine own_fs (XS.aload X33.here hx rfl (hb hby at_162) rfl rfl (Steps.refl _)) ?_
      show own_G p.tables e below _ (T33.setTop (mkF m 164 #[.val (.int x0), .val (.int x1), .val (.int x2), .val (.int x3), .val (.int x4), .val (.int (1 : Int32)), .val (.ref sg1), .val (.ref sg5), .val (.ref sg9), .val (.ref b13), .val (.ref sg1), .val (.ref sv21), .val (.ref sv25), .val (.ref sv29), .unset, .unset] [(.ref sv25), (.ref b33), (.ref b33)]))
      refine own_fs (XS.aload X33.here hx rfl (hb hby at_164) rfl rfl (Steps.refl _)) ?_
      show own_G p.tables e below _ (T33.setTop (mkF m 166 #[.val (.int x0), .val (.int x1), .val (.int x2), .val (.int x3), .val (.int x4), .val (.int (1 : Int32)), .val (.ref sg1), .val (.ref sg5), .val (.ref sg9), .val (.ref b13), .val (.ref sg1), .val (.ref sv21), .val (.ref sv25), .val (.ref sv29), .unset, .unset] [(.ref sv21), (.ref sv25), (.ref b33), (.ref b33)]))
      refine own_fs (XS.aload X33.here hx rfl (hb hby at_166) rfl rfl (Steps.refl _)) ?_
      show own_G p.tables e below _ (T33.setTop (mkF m 168 #[.val (.int x0), .val (.int x1), .val (.int x2), .val (.int x3), .val (.int x4), .val (.int (1 : Int32)), .val (.ref sg1), .val (.ref sg5), .val (.ref sg9), .val (.ref b13), .val (.ref sg1), .val (.ref sv21), .val (.ref sv25), .val (.ref sv29), .unset, .unset] [(.ref sv29), (.ref sv21), (.ref sv25), (.ref b33), (.ref b33)]))
      refine own_fs (XS.aload X33.here hx rfl (hb hby at_168) rfl rfl (Steps.refl _)) ?_
      show own_G p.tables e below _ (T33.setTop (mkF m 170 #[.val (.int x0), .val (.int x1), .val (.int x2), .val (.int x3), .val (.int x4), .val (.int (1 : Int32)), .val (.ref sg1), .val (.ref sg5), .val (.ref sg9), .val (.ref b13), .val (.ref sg1), .val (.ref sv21), .val (.ref sv25), .val (.ref sv29), .unset, .unset] [(.ref b13), (.ref sv29), (.ref sv21), (.ref sv25), (.ref b33), (.ref b33)]))
      have Zs36 : n0 ≤ h33.size := (Nat.le_trans (Nat.le_trans (Nat.le_trans (Nat.le_trans (Nat.le_trans (Nat.le_trans (Nat.le_trans (Nat.le_trans (Nat.le_trans (Nat.le_trans Z0 K3.1) K7.1) K11.1) E13.1) K15.1) K19.1) K23.1) K27.1) K31.1) E33.1)
      obtain ⟨_, _, ⟨T35, L35, k35, n35⟩, -, X35, ⟨Lc35, hQ35, l35, y35, z35⟩, st35⟩ := X33.specialBack hx (y := (⟨"com/example/corbelpath/corbelpath/Deployment$Target", "<init>", "(Ljava/lang/String;Ljava/lang/String;Ljava/lang/String;Ljava/util/List;)V"⟩ : MethodName)) rfl hown (mvT hZ (hw _ (List.mem_of_getElem? (i := 107) rfl))) (mvT hZ (hw _ (List.mem_of_getElem? (i := 108) rfl))) (mvT hZ (hw _ (List.mem_of_getElem? (i := 109) rfl))) (by decide) (backOf (W := 1) (own_i_Target0 l Z a0 hw [] b33 sv25 sv21 sv29 b13 (.null) (.null) (.null) (.null) h33 n0 Zs36 A33 F_version_b33 F_locale_b33 F_library_b33 F_path_b33 ge_b33) hZ (hw _ (List.mem_of_getElem? (i := 109) rfl)) (hw _ (List.mem_of_getElem? (i := 106) rfl)) (by decide) (by decide)) (g := (mkF m 170 #[.val (.int x0), .val (.int x1), .val (.int x2), .val (.int x3), .val (.int x4), .val (.int (1 : Int32)), .val (.ref sg1), .val (.ref sg5), .val (.ref sg9), .val (.ref b13), .val (.ref sg1), .val (.ref sv21), .val (.ref sv25), .val (.ref sv29), .unset, .unset] [(.ref b13), (.ref sv29), (.ref sv21), (.ref sv25), (.ref b33), (.ref b33)])) rfl (by rw [hml]; rfl) (Steps.refl _) (a := b33) (argsL := [(.ref sv25), (.ref sv21), (.ref sv29), (.ref b13)]) (rest := [(.ref b33)]) (lenOf own_pd15 rfl) rfl (by show 2 * 0 + _ ≤ _; exact Nat.le_of_eq rfl) (hb hby at_170) (fun _ _ => ⟨rfl, e33, (by decide : 18 + 0 ≤ _), (by decide : 56 + 0 ≤ _)⟩)
      dsimp only [Pt.U, Pt.locs, Pt.cells, Pt.slots] at X35 l35 y35 z35 st35 hQ35
      subst l35 y35 z35
      obtain ⟨h35, e35⟩ : ∃ h, T35.heap = h := ⟨_, rfl⟩
      rw [e35] at hQ35
      obtain ⟨rfl, Nq35, K35, P34_0⟩ := hQ35
      have N35 := Fr.app N31 Nq35
      refine own_fs st35 ?_
      show own_G p.tables e below _ (T35.setTop (mkF m 173 #[.val (.int x0), .val (.int x1), .val (.int x2), .val (.int x3), .val (.int x4), .val (.int (1 : Int32)), .val (.ref sg1), .val (.ref sg5), .val (.ref sg9), .val (.ref b13), .val (.ref sg1), .val (.ref sv21), .val (.ref sv25), .val (.ref sv29), .unset, .unset] [(.ref b33)]))
      refine own_fs (XS.astore X35.here hx rfl (hb hby at_173) rfl rfl (l' := #[.val (.int x0), .val (.int x1), .val (.int x2), .val (.int x3), .val (.int x4), .val (.int (1 : Int32)), .val (.ref sg1), .val (.ref sg5), .val (.ref sg9), .val (.ref b13), .val (.ref sg1), .val (.ref sv21), .val (.ref sv25), .val (.ref sv29), .val (.ref b33), .unset]) rfl (Steps.refl _)) ?_
      show own_G p.tables e below _ (T35.setTop (mkF m 175 #[.val (.int x0), .val (.int x1), .val (.int x2), .val (.int x3), .val (.int x4), .val (.int (1 : Int32)), .val (.ref sg1), .val (.ref sg5), .val (.ref sg9), .val (.ref b13), .val (.ref sg1), .val (.ref sv21), .val (.ref sv25), .val (.ref sv29), .val (.ref b33), .unset] []))
      refine own_fs (XS.aload X35.here hx rfl (hb hby at_175) rfl rfl (Steps.refl _)) ?_
      show own_G p.tables e below _ (T35.setTop (mkF m 177 #[.val (.int x0), .val (.int x1), .val (.int x2), .val (.int x3), .val (.int x4), .val (.int (1 : Int32)), .val (.ref sg1), .val (.ref sg5), .val (.ref sg9), .val (.ref b13), .val (.ref sg1), .val (.ref sv21), .val (.ref sv25), .val (.ref sv29), .val (.ref b33), .unset] [(.ref b33)]))
      have Zs39 : n0 ≤ h35.size := (Nat.le_trans (Nat.le_trans (Nat.le_trans (Nat.le_trans (Nat.le_trans (Nat.le_trans (Nat.le_trans (Nat.le_trans (Nat.le_trans (Nat.le_trans (Nat.le_trans Z0 K3.1) K7.1) K11.1) E13.1) K15.1) K19.1) K23.1) K27.1) K31.1) E33.1) K35.1)
      obtain ⟨cq38, kq38, q38a, q38b, q38c⟩ := isOf hZ e35 (A33.keep K35)
      obtain ⟨_, _, ⟨T38, L38, k38, n38⟩, -, X38, ⟨Lc38, hQ38, l38, y38, z38⟩, st38⟩ := X35.virtualBack hx (y := (⟨"com/example/corbelpath/corbelpath/Deployment$Target", "fileName", "()Ljava/lang/String;"⟩ : MethodName)) (z := (⟨"com/example/corbelpath/corbelpath/Deployment$Target", "fileName", "()Ljava/lang/String;"⟩ : MethodName)) hown (mvT hZ (hw _ (List.mem_of_getElem? (i := 124) rfl))) (mvT hZ (hw _ (List.mem_of_getElem? (i := 125) rfl))) (notFace_of_selects (args := #[]) (mvT hZ (hw _ (List.mem_of_getElem? (i := 127) rfl)))) (mvT hZ (hw _ (List.mem_of_getElem? (i := 127) rfl))) (mvT hZ (hw _ (List.mem_of_getElem? (i := 126) rfl))) (by decide) (backOf (W := 0) (own_fname1 l Z a0 hw [] b33 b13 sg1 br17 kr17 h35 n0 Zs39 P34_0 ((Exa.ext E33 (((((A13.keep K15).keep K19).keep K23).keep K27).keep K31)).keep K35) ((Fld.ext E33 (((P18_2.keep K23 nin0).keep K27 nin0).keep K31 nin0)).keep K35 (ninS (Nat.ne_of_lt (Nat.lt_of_lt_of_le (Exa.lt (((((A13.keep K15).keep K19).keep K23).keep K27).keep K31)) (Nat.le_of_eq g33.symm))) nin0)) ((Fld.ext E33 (((P18_1.keep K23 nin0).keep K27 nin0).keep K31 nin0)).keep K35 (ninS (Nat.ne_of_lt (Nat.lt_of_lt_of_le (Exa.lt (((((A13.keep K15).keep K19).keep K23).keep K27).keep K31)) (Nat.le_of_eq g33.symm))) nin0)) (((((P18_4.keep K23 nin0).keep K27 nin0).keep K31 nin0).ext E33).keep K35 (ninS (Nat.ne_of_lt (Nat.lt_of_lt_of_le (Arv.lt (((P18_4.keep K23 nin0).keep K27 nin0).keep K31 nin0)) (Nat.le_of_eq g33.symm))) nin0)) ((Exa.ext E33 ((((((Exa.ext E13 ((P2_0.keep K7).keep K11)).keep K15).keep K19).keep K23).keep K27).keep K31)).keep K35)) hZ (hw _ (List.mem_of_getElem? (i := 128) rfl)) (hw _ (List.mem_of_getElem? (i := 106) rfl)) (by decide) (by decide)) q38a q38c (g := (mkF m 177 #[.val (.int x0), .val (.int x1), .val (.int x2), .val (.int x3), .val (.int x4), .val (.int (1 : Int32)), .val (.ref sg1), .val (.ref sg5), .val (.ref sg9), .val (.ref b13), .val (.ref sg1), .val (.ref sv21), .val (.ref sv25), .val (.ref sv29), .val (.ref b33), .unset] [(.ref b33)])) rfl (by rw [hml]; rfl) (Steps.refl _) (argsL := []) (rest := []) (lenOf own_pd16 rfl) rfl (by show 2 * 0 + _ ≤ _; exact Nat.le_of_eq rfl) (hb hby at_177) (fun _ _ => ⟨rfl, e35, (by decide : 18 + 0 ≤ _), (by decide : 56 + 0 ≤ _)⟩)
      dsimp only [Pt.U, Pt.locs, Pt.cells, Pt.slots] at X38 l38 y38 z38 st38 hQ38
      subst l38 y38 z38
      obtain ⟨rfl, Nq38, e38⟩ := hQ38
      have N38 := Fr.app N35 Nq38
      refine own_fs st38 ?_
      show own_G p.tables e below _ (T38.setTop (mkF m 180 #[.val (.int x0), .val (.int x1), .val (.int x2), .val (.int x3), .val (.int x4), .val (.int (1 : Int32)), .val (.ref sg1), .val (.ref sg5), .val (.ref sg9), .val (.ref b13), .val (.ref sg1), .val (.ref sv21), .val (.ref sv25), .val (.ref sv29), .val (.ref b33), .unset] [(.ref sg1)]))
      refine own_fs (XS.astore X38.here hx rfl (hb hby at_180) rfl rfl (l' := #[.val (.int x0), .val (.int x1), .val (.int x2), .val (.int x3), .val (.int x4), .val (.int (1 : Int32)), .val (.ref sg1), .val (.ref sg5), .val (.ref sg9), .val (.ref b13), .val (.ref sg1), .val (.ref sv21), .val (.ref sv25), .val (.ref sv29), .val (.ref b33), .val (.ref sg1)]) rfl (Steps.refl _)) ?_
      show own_G p.tables e below _ (T38.setTop (mkF m 182 #[.val (.int x0), .val (.int x1), .val (.int x2), .val (.int x3), .val (.int x4), .val (.int (1 : Int32)), .val (.ref sg1), .val (.ref sg5), .val (.ref sg9), .val (.ref b13), .val (.ref sg1), .val (.ref sv21), .val (.ref sv25), .val (.ref sv29), .val (.ref b33), .val (.ref sg1)] []))
      refine own_fs (XS.aload X38.here hx rfl (hb hby at_182) rfl rfl (Steps.refl _)) ?_
      show own_G p.tables e below _ (T38.setTop (mkF m 184 #[.val (.int x0), .val (.int x1), .val (.int x2), .val (.int x3), .val (.int x4), .val (.int (1 : Int32)), .val (.ref sg1), .val (.ref sg5), .val (.ref sg9), .val (.ref b13), .val (.ref sg1), .val (.ref sv21), .val (.ref sv25), .val (.ref sv29), .val (.ref b33), .val (.ref sg1)] [(.ref sg1)]))
      refine own_fs (XS.ifnullNo X38.here hx rfl (hb hby at_184) rfl (Steps.refl _)) ?_
      show own_G p.tables e below _ (T38.setTop (mkF m 187 #[.val (.int x0), .val (.int x1), .val (.int x2), .val (.int x3), .val (.int x4), .val (.int (1 : Int32)), .val (.ref sg1), .val (.ref sg5), .val (.ref sg9), .val (.ref b13), .val (.ref sg1), .val (.ref sv21), .val (.ref sv25), .val (.ref sv29), .val (.ref b33), .val (.ref sg1)] []))
      refine own_fs (XS.aload X38.here hx rfl (hb hby at_187) rfl rfl (Steps.refl _)) ?_
      show own_G p.tables e below _ (T38.setTop (mkF m 189 #[.val (.int x0), .val (.int x1), .val (.int x2), .val (.int x3), .val (.int x4), .val (.int (1 : Int32)), .val (.ref sg1), .val (.ref sg5), .val (.ref sg9), .val (.ref b13), .val (.ref sg1), .val (.ref sv21), .val (.ref sv25), .val (.ref sv29), .val (.ref b33), .val (.ref sg1)] [(.ref sg1)]))
      refine own_fs (XS.aload X38.here hx rfl (hb hby at_189) rfl rfl (Steps.refl _)) ?_
      show own_G p.tables e below _ (T38.setTop (mkF m 191 #[.val (.int x0), .val (.int x1), .val (.int x2), .val (.int x3), .val (.int x4), .val (.int (1 : Int32)), .val (.ref sg1), .val (.ref sg5), .val (.ref sg9), .val (.ref b13), .val (.ref sg1), .val (.ref sv21), .val (.ref sv25), .val (.ref sv29), .val (.ref b33), .val (.ref sg1)] [(.ref sg1), (.ref sg1)]))
      have Zs42 : n0 ≤ h35.size := (Nat.le_trans (Nat.le_trans (Nat.le_trans (Nat.le_trans (Nat.le_trans (Nat.le_trans (Nat.le_trans (Nat.le_trans (Nat.le_trans (Nat.le_trans (Nat.le_trans Z0 K3.1) K7.1) K11.1) E13.1) K15.1) K19.1) K23.1) K27.1) K31.1) E33.1) K35.1)
      obtain ⟨cq41, kq41, q41a, q41b, q41c⟩ := isOf hZ e38 ((Exa.ext E33 ((((((Exa.ext E13 ((P2_0.keep K7).keep K11)).keep K15).keep K19).keep K23).keep K27).keep K31)).keep K35)
      obtain ⟨_, _, ⟨T41, L41, k41, n41⟩, -, X41, ⟨Lc41, hQ41, l41, y41, z41⟩, st41⟩ := X38.virtualBack hx (y := (⟨"java/lang/String", "equals", "(Ljava/lang/Object;)Z"⟩ : MethodName)) (z := (⟨"java/lang/String", "equals", "(Ljava/lang/Object;)Z"⟩ : MethodName)) hown (mvT hZ (hw _ (List.mem_of_getElem? (i := 160) rfl))) (mvT hZ (hw _ (List.mem_of_getElem? (i := 161) rfl))) (notFace_of_selects (args := #[]) (mvT hZ (hw _ (List.mem_of_getElem? (i := 163) rfl)))) (mvT hZ (hw _ (List.mem_of_getElem? (i := 163) rfl))) (mvT hZ (hw _ (List.mem_of_getElem? (i := 162) rfl))) (by decide) (backOf (W := 0) (own_streq l Z a0 hw [] sg1 h35 n0 Zs42 ) hZ (hw _ (List.mem_of_getElem? (i := 164) rfl)) (hw _ (List.mem_of_getElem? (i := 8) rfl)) (by decide) (by decide)) q41a q41c (g := (mkF m 191 #[.val (.int x0), .val (.int x1), .val (.int x2), .val (.int x3), .val (.int x4), .val (.int (1 : Int32)), .val (.ref sg1), .val (.ref sg5), .val (.ref sg9), .val (.ref b13), .val (.ref sg1), .val (.ref sv21), .val (.ref sv25), .val (.ref sv29), .val (.ref b33), .val (.ref sg1)] [(.ref sg1), (.ref sg1)])) rfl (by rw [hml]; rfl) (Steps.refl _) (argsL := [(.ref sg1)]) (rest := []) (lenOf own_pd13 rfl) rfl (by show 2 * 0 + _ ≤ _; exact Nat.le_of_eq rfl) (hb hby at_191) (fun _ _ => ⟨rfl, e38, (by decide : 18 + 0 ≤ _), (by decide : 56 + 0 ≤ _)⟩)
      dsimp only [Pt.U, Pt.locs, Pt.cells, Pt.slots] at X41 l41 y41 z41 st41 hQ41
      subst l41 y41 z41
      obtain ⟨rfl, Nq41, e41⟩ := hQ41
      have N41 := Fr.app N38 Nq41
      refine own_fs st41 ?_
      show own_G p.tables e below _ (T41.setTop (mkF m 194 #[.val (.int x0), .val (.int x1), .val (.int x2), .val (.int x3), .val (.int x4), .val (.int (1 : Int32)), .val (.ref sg1), .val (.ref sg5), .val (.ref sg9), .val (.ref b13), .val (.ref sg1), .val (.ref sv21), .val (.ref sv25), .val (.ref sv29), .val (.ref b33), .val (.ref sg1)] [(.int (1 : Int32))]))
      refine own_fs (XS.ifNo X41.here hx rfl (hb hby at_194) rfl (XT.i0_eq_f (by decide : ¬ ((1 : Int32) = (0 : Int32)))) (Steps.refl _)) ?_
      show own_G p.tables e below _ (T41.setTop (mkF m 197 #[.val (.int x0), .val (.int x1), .val (.int x2), .val (.int x3), .val (.int x4), .val (.int (1 : Int32)), .val (.ref sg1), .val (.ref sg5), .val (.ref sg9), .val (.ref b13), .val (.ref sg1), .val (.ref sv21), .val (.ref sv25), .val (.ref sv29), .val (.ref b33), .val (.ref sg1)] []))
      refine own_fs (XS.iconst X41.here hx rfl (hb hby at_197) (Steps.refl _)) ?_
      show own_G p.tables e below _ (T41.setTop (mkF m 198 #[.val (.int x0), .val (.int x1), .val (.int x2), .val (.int x3), .val (.int x4), .val (.int (1 : Int32)), .val (.ref sg1), .val (.ref sg5), .val (.ref sg9), .val (.ref b13), .val (.ref sg1), .val (.ref sv21), .val (.ref sv25), .val (.ref sv29), .val (.ref b33), .val (.ref sg1)] [(.int (1 : Int32))]))
      refine own_fs (XS.goto X41.here hx rfl (pc0 := 198) (pc' := 202) rfl (hb hby at_198) (by decide) (by decide) (Steps.refl _)) ?_
      show own_G p.tables e below _ (T41.setTop (mkF m 202 #[.val (.int x0), .val (.int x1), .val (.int x2), .val (.int x3), .val (.int x4), .val (.int (1 : Int32)), .val (.ref sg1), .val (.ref sg5), .val (.ref sg9), .val (.ref b13), .val (.ref sg1), .val (.ref sv21), .val (.ref sv25), .val (.ref sv29), .val (.ref b33), .val (.ref sg1)] [(.int (1 : Int32))]))
      exact own_retN X41 hx (t := .boolean) Bd.returns hlk (by simp) (hb hby at_202) (by decide) (by decide) e41 ⟨rfl, N41⟩
    · refine own_fs (XS.ifNo X19.here hx rfl (hb hby at_107) rfl (XT.i0_eq_f hc107) (Steps.refl _)) ?_
      show own_G p.tables e below _ (T19.setTop (mkF m 110 #[.val (.int x0), .val (.int x1), .val (.int x2), .val (.int x3), .val (.int x4), .val (.int (1 : Int32)), .val (.ref sg1), .val (.ref sg5), .val (.ref sg9), .val (.ref b13), .val (.ref sg1), .unset, .unset, .unset, .unset, .unset] []))
      refine own_fs (XS.aconstNull X19.here hx rfl (hb hby at_110) (Steps.refl _)) ?_
      show own_G p.tables e below _ (T19.setTop (mkF m 111 #[.val (.int x0), .val (.int x1), .val (.int x2), .val (.int x3), .val (.int x4), .val (.int (1 : Int32)), .val (.ref sg1), .val (.ref sg5), .val (.ref sg9), .val (.ref b13), .val (.ref sg1), .unset, .unset, .unset, .unset, .unset] [.null]))
      refine own_fs (XS.goto X19.here hx rfl (pc0 := 111) (pc' := 126) rfl (hb hby at_111) (by decide) (by decide) (Steps.refl _)) ?_
      show own_G p.tables e below _ (T19.setTop (mkF m 126 #[.val (.int x0), .val (.int x1), .val (.int x2), .val (.int x3), .val (.int x4), .val (.int (1 : Int32)), .val (.ref sg1), .val (.ref sg5), .val (.ref sg9), .val (.ref b13), .val (.ref sg1), .unset, .unset, .unset, .unset, .unset] [.null]))
      refine own_fs (XS.astore X19.here hx rfl (hb hby at_126) rfl rfl (l' := #[.val (.int x0), .val (.int x1), .val (.int x2), .val (.int x3), .val (.int x4), .val (.int (1 : Int32)), .val (.ref sg1), .val (.ref sg5), .val (.ref sg9), .val (.ref b13), .val (.ref sg1), .val .null, .unset, .unset, .unset, .unset]) rfl (Steps.refl _)) ?_
      show own_G p.tables e below _ (T19.setTop (mkF m 128 #[.val (.int x0), .val (.int x1), .val (.int x2), .val (.int x3), .val (.int x4), .val (.int (1 : Int32)), .val (.ref sg1), .val (.ref sg5), .val (.ref sg9), .val (.ref b13), .val (.ref sg1), .val .null, .unset, .unset, .unset, .unset] []))
      refine own_fs (XS.iload X19.here hx rfl (hb hby at_128) rfl (Steps.refl _)) ?_
      show own_G p.tables e below _ (T19.setTop (mkF m 130 #[.val (.int x0), .val (.int x1), .val (.int x2), .val (.int x3), .val (.int x4), .val (.int (1 : Int32)), .val (.ref sg1), .val (.ref sg5), .val (.ref sg9), .val (.ref b13), .val (.ref sg1), .val .null, .unset, .unset, .unset, .unset] [(.int x4)]))
      refine own_fs (XS.bipush X19.here hx rfl (hb hby at_130) (Steps.refl _)) ?_
      show own_G p.tables e below _ (T19.setTop (mkF m 132 #[.val (.int x0), .val (.int x1), .val (.int x2), .val (.int x3), .val (.int x4), .val (.int (1 : Int32)), .val (.ref sg1), .val (.ref sg5), .val (.ref sg9), .val (.ref b13), .val (.ref sg1), .val .null, .unset, .unset, .unset, .unset] [(.int (9 : Int32)), (.int x4)]))
      refine own_fs (XS.iushr X19.here hx rfl (hb hby at_132) rfl (Steps.refl _)) ?_
      show own_G p.tables e below _ (T19.setTop (mkF m 133 #[.val (.int x0), .val (.int x1), .val (.int x2), .val (.int x3), .val (.int x4), .val (.int (1 : Int32)), .val (.ref sg1), .val (.ref sg5), .val (.ref sg9), .val (.ref b13), .val (.ref sg1), .val .null, .unset, .unset, .unset, .unset] [(.int ((x4.toUInt32 >>> ((9 : Int32) &&& 31).toUInt32).toInt32))]))
      refine own_fs (XS.sipush X19.here hx rfl (hb hby at_133) (Steps.refl _)) ?_
      show own_G p.tables e below _ (T19.setTop (mkF m 136 #[.val (.int x0), .val (.int x1), .val (.int x2), .val (.int x3), .val (.int x4), .val (.int (1 : Int32)), .val (.ref sg1), .val (.ref sg5), .val (.ref sg9), .val (.ref b13), .val (.ref sg1), .val .null, .unset, .unset, .unset, .unset] [(.int (255 : Int32)), (.int ((x4.toUInt32 >>> ((9 : Int32) &&& 31).toUInt32).toInt32))]))
      refine own_fs (XS.iand X19.here hx rfl (hb hby at_136) rfl (Steps.refl _)) ?_
      show own_G p.tables e below _ (T19.setTop (mkF m 137 #[.val (.int x0), .val (.int x1), .val (.int x2), .val (.int x3), .val (.int x4), .val (.int (1 : Int32)), .val (.ref sg1), .val (.ref sg5), .val (.ref sg9), .val (.ref b13), .val (.ref sg1), .val .null, .unset, .unset, .unset, .unset] [(.int (((x4.toUInt32 >>> ((9 : Int32) &&& 31).toUInt32).toInt32) &&& (255 : Int32)))]))
      refine own_fs (XS.i2c X19.here hx rfl (hb hby at_137) rfl (Steps.refl _)) ?_
      show own_G p.tables e below _ (T19.setTop (mkF m 138 #[.val (.int x0), .val (.int x1), .val (.int x2), .val (.int x3), .val (.int x4), .val (.int (1 : Int32)), .val (.ref sg1), .val (.ref sg5), .val (.ref sg9), .val (.ref b13), .val (.ref sg1), .val .null, .unset, .unset, .unset, .unset] [(.int ((((x4.toUInt32 >>> ((9 : Int32) &&& 31).toUInt32).toInt32) &&& (255 : Int32)).toUInt32.toUInt16.toUInt32.toInt32))]))
      have Zs46 : n0 ≤ h19.size := (Nat.le_trans (Nat.le_trans (Nat.le_trans (Nat.le_trans (Nat.le_trans (Nat.le_trans Z0 K3.1) K7.1) K11.1) E13.1) K15.1) K19.1)
      obtain ⟨_, _, ⟨T45, L45, k45, n45⟩, -, X45, ⟨Lc45, hQ45, l45, y45, z45⟩, st45⟩ := Jvm.LawKit.callS X19 hx (y := (⟨"java/lang/String", "valueOf", "(C)Ljava/lang/String;"⟩ : MethodName)) hown (mvT hZ (hw _ (List.mem_of_getElem? (i := 90) rfl))) (mvT hZ (hw _ (List.mem_of_getElem? (i := 91) rfl))) (mvT hZ (hw _ (List.mem_of_getElem? (i := 8) rfl))) (mvT hZ (hw _ (List.mem_of_getElem? (i := 92) rfl))) (by decide) (backOf (W := 0) (own_valueOfC l Z a0 hw [] ((((x4.toUInt32 >>> ((9 : Int32) &&& 31).toUInt32).toInt32) &&& (255 : Int32)).toUInt32.toUInt16.toUInt32.toInt32) cz h19 n0 Zs46 hSc hcz (Old.keep (Old.keep (Old.ext (Old.keep (Old.keep (Old.keep hOld K3 all0) K7 all0) K11 all0) E13) K15 (allS ge_b13 all0)) K19 (allS ge_b13 all0)) (own_ch _).2) hZ (hw _ (List.mem_of_getElem? (i := 92) rfl)) (hw _ (List.mem_of_getElem? (i := 8) rfl)) (by decide) (by decide)) (g := (mkF m 138 #[.val (.int x0), .val (.int x1), .val (.int x2), .val (.int x3), .val (.int x4), .val (.int (1 : Int32)), .val (.ref sg1), .val (.ref sg5), .val (.ref sg9), .val (.ref b13), .val (.ref sg1), .val .null, .unset, .unset, .unset, .unset] [(.int ((((x4.toUInt32 >>> ((9 : Int32) &&& 31).toUInt32).toInt32) &&& (255 : Int32)).toUInt32.toUInt16.toUInt32.toInt32))])) rfl (by rw [hml]; rfl) (argsL := [(.int ((((x4.toUInt32 >>> ((9 : Int32) &&& 31).toUInt32).toInt32) &&& (255 : Int32)).toUInt32.toUInt16.toUInt32.toInt32))]) (rest := []) (lenOf own_pd14 rfl) rfl (by show 2 * 0 + _ ≤ _; exact Nat.le_of_eq rfl) (hb hby at_138) (fun _ _ => ⟨rfl, e19, (by decide : 11 + 2 ≤ _), (by decide : 37 + 5 ≤ _)⟩)
      dsimp only [Pt.U, Pt.locs, Pt.cells, Pt.slots] at X45 l45 y45 z45 st45 hQ45
      subst l45 y45 z45
      obtain ⟨h45, e45⟩ : ∃ h, T45.heap = h := ⟨_, rfl⟩
      rw [e45] at hQ45
      obtain ⟨sv43, rfl, Nq45, K45, P44_0, P44_1⟩ := hQ45
      have N45 := Fr.app N19 Nq45
      have ge_sv43 : n0 ≤ sv43 := Nat.le_trans (Nat.le_trans (Nat.le_trans (Nat.le_trans (Nat.le_trans (Nat.le_trans (Nat.le_trans Z0 K3.1) K7.1) K11.1) E13.1) K15.1) K19.1) P44_1
      have gz_sv43 : h0.size ≤ sv43 := Nat.le_trans (Nat.le_trans (Nat.le_trans (Nat.le_trans (Nat.le_trans (Nat.le_trans (Nat.le_trans (Nat.le_refl _) K3.1) K7.1) K11.1) E13.1) K15.1) K19.1) P44_1
      refine own_fs (st45 _ (Steps.refl _)) ?_
      show own_G p.tables e below _ (T45.setTop (mkF m 141 #[.val (.int x0), .val (.int x1), .val (.int x2), .val (.int x3), .val (.int x4), .val (.int (1 : Int32)), .val (.ref sg1), .val (.ref sg5), .val (.ref sg9), .val (.ref b13), .val (.ref sg1), .val .null, .unset, .unset, .unset, .unset] [(.ref sv43)]))
      refine own_fs (XS.astore X45.here hx rfl (hb hby at_141) rfl rfl (l' := #[.val (.int x0), .val (.int x1), .val (.int x2), .val (.int x3), .val (.int x4), .val (.int (1 : Int32)), .val (.ref sg1), .val (.ref sg5), .val (.ref sg9), .val (.ref b13), .val (.ref sg1), .val .null, .val (.ref sv43), .unset, .unset, .unset]) rfl (Steps.refl _)) ?_
      show own_G p.tables e below _ (T45.setTop (mkF m 143 #[.val (.int x0), .val (.int x1), .val (.int x2), .val (.int x3), .val (.int x4), .val (.int (1 : Int32)), .val (.ref sg1), .val (.ref sg5), .val (.ref sg9), .val (.ref b13), .val (.ref sg1), .val .null, .val (.ref sv43), .unset, .unset, .unset] []))
      refine own_fs (XS.iload X45.here hx rfl (hb hby at_143) rfl (Steps.refl _)) ?_
      show own_G p.tables e below _ (T45.setTop (mkF m 145 #[.val (.int x0), .val (.int x1), .val (.int x2), .val (.int x3), .val (.int x4), .val (.int (1 : Int32)), .val (.ref sg1), .val (.ref sg5), .val (.ref sg9), .val (.ref b13), .val (.ref sg1), .val .null, .val (.ref sv43), .unset, .unset, .unset] [(.int x4)]))
      refine own_fs (XS.bipush X45.here hx rfl (hb hby at_145) (Steps.refl _)) ?_
      show own_G p.tables e below _ (T45.setTop (mkF m 147 #[.val (.int x0), .val (.int x1), .val (.int x2), .val (.int x3), .val (.int x4), .val (.int (1 : Int32)), .val (.ref sg1), .val (.ref sg5), .val (.ref sg9), .val (.ref b13), .val (.ref sg1), .val .null, .val (.ref sv43), .unset, .unset, .unset] [(.int (17 : Int32)), (.int x4)]))
      refine own_fs (XS.iushr X45.here hx rfl (hb hby at_147) rfl (Steps.refl _)) ?_
      show own_G p.tables e below _ (T45.setTop (mkF m 148 #[.val (.int x0), .val (.int x1), .val (.int x2), .val (.int x3), .val (.int x4), .val (.int (1 : Int32)), .val (.ref sg1), .val (.ref sg5), .val (.ref sg9), .val (.ref b13), .val (.ref sg1), .val .null, .val (.ref sv43), .unset, .unset, .unset] [(.int ((x4.toUInt32 >>> ((17 : Int32) &&& 31).toUInt32).toInt32))]))
      refine own_fs (XS.sipush X45.here hx rfl (hb hby at_148) (Steps.refl _)) ?_
      show own_G p.tables e below _ (T45.setTop (mkF m 151 #[.val (.int x0), .val (.int x1), .val (.int x2), .val (.int x3), .val (.int x4), .val (.int (1 : Int32)), .val (.ref sg1), .val (.ref sg5), .val (.ref sg9), .val (.ref b13), .val (.ref sg1), .val .null, .val (.ref sv43), .unset, .unset, .unset] [(.int (255 : Int32)), (.int ((x4.toUInt32 >>> ((17 : Int32) &&& 31).toUInt32).toInt32))]))
      refine own_fs (XS.iand X45.here hx rfl (hb hby at_151) rfl (Steps.refl _)) ?_
      show own_G p.tables e below _ (T45.setTop (mkF m 152 #[.val (.int x0), .val (.int x1), .val (.int x2), .val (.int x3), .val (.int x4), .val (.int (1 : Int32)), .val (.ref sg1), .val (.ref sg5), .val (.ref sg9), .val (.ref b13), .val (.ref sg1), .val .null, .val (.ref sv43), .unset, .unset, .unset] [(.int (((x4.toUInt32 >>> ((17 : Int32) &&& 31).toUInt32).toInt32) &&& (255 : Int32)))]))
      refine own_fs (XS.i2c X45.here hx rfl (hb hby at_152) rfl (Steps.refl _)) ?_
      show own_G p.tables e below _ (T45.setTop (mkF m 153 #[.val (.int x0), .val (.int x1), .val (.int x2), .val (.int x3), .val (.int x4), .val (.int (1 : Int32)), .val (.ref sg1), .val (.ref sg5), .val (.ref sg9), .val (.ref b13), .val (.ref sg1), .val .null, .val (.ref sv43), .unset, .unset, .unset] [(.int ((((x4.toUInt32 >>> ((17 : Int32) &&& 31).toUInt32).toInt32) &&& (255 : Int32)).toUInt32.toUInt16.toUInt32.toInt32))]))
      have Zs50 : n0 ≤ h45.size := (Nat.le_trans (Nat.le_trans (Nat.le_trans (Nat.le_trans (Nat.le_trans (Nat.le_trans (Nat.le_trans Z0 K3.1) K7.1) K11.1) E13.1) K15.1) K19.1) K45.1)
      obtain ⟨_, _, ⟨T49, L49, k49, n49⟩, -, X49, ⟨Lc49, hQ49, l49, y49, z49⟩, st49⟩ := Jvm.LawKit.callS X45 hx (y := (⟨"java/lang/String", "valueOf", "(C)Ljava/lang/String;"⟩ : MethodName)) hown (mvT hZ (hw _ (List.mem_of_getElem? (i := 90) rfl))) (mvT hZ (hw _ (List.mem_of_getElem? (i := 91) rfl))) (mvT hZ (hw _ (List.mem_of_getElem? (i := 8) rfl))) (mvT hZ (hw _ (List.mem_of_getElem? (i := 92) rfl))) (by decide) (backOf (W := 0) (own_valueOfC l Z a0 hw [] ((((x4.toUInt32 >>> ((17 : Int32) &&& 31).toUInt32).toInt32) &&& (255 : Int32)).toUInt32.toUInt16.toUInt32.toInt32) cz h45 n0 Zs50 hSc hcz (Old.keep (Old.keep (Old.keep (Old.ext (Old.keep (Old.keep (Old.keep hOld K3 all0) K7 all0) K11 all0) E13) K15 (allS ge_b13 all0)) K19 (allS ge_b13 all0)) K45 all0) (own_ch _).2) hZ (hw _ (List.mem_of_getElem? (i := 92) rfl)) (hw _ (List.mem_of_getElem? (i := 8) rfl)) (by decide) (by decide)) (g := (mkF m 153 #[.val (.int x0), .val (.int x1), .val (.int x2), .val (.int x3), .val (.int x4), .val (.int (1 : Int32)), .val (.ref sg1), .val (.ref sg5), .val (.ref sg9), .val (.ref b13), .val (.ref sg1), .val .null, .val (.ref sv43), .unset, .unset, .unset] [(.int ((((x4.toUInt32 >>> ((17 : Int32) &&& 31).toUInt32).toInt32) &&& (255 : Int32)).toUInt32.toUInt16.toUInt32.toInt32))])) rfl (by rw [hml]; rfl) (argsL := [(.int ((((x4.toUInt32 >>> ((17 : Int32) &&& 31).toUInt32).toInt32) &&& (255 : Int32)).toUInt32.toUInt16.toUInt32.toInt32))]) (rest := []) (lenOf own_pd14 rfl) rfl (by show 2 * 0 + _ ≤ _; exact Nat.le_of_eq rfl) (hb hby at_153) (fun _ _ => ⟨rfl, e45, (by decide : 13 + 2 ≤ _), (by decide : 42 + 5 ≤ _)⟩)
      dsimp only [Pt.U, Pt.locs, Pt.cells, Pt.slots] at X49 l49 y49 z49 st49 hQ49
      subst l49 y49 z49
      obtain ⟨h49, e49⟩ : ∃ h, T49.heap = h := ⟨_, rfl⟩
      rw [e49] at hQ49
      obtain ⟨sv47, rfl, Nq49, K49, P48_0, P48_1⟩ := hQ49
      have N49 := Fr.app N45 Nq49
      have ge_sv47 : n0 ≤ sv47 := Nat.le_trans (Nat.le_trans (Nat.le_trans (Nat.le_trans (Nat.le_trans (Nat.le_trans (Nat.le_trans (Nat.le_trans Z0 K3.1) K7.1) K11.1) E13.1) K15.1) K19.1) K45.1) P48_1
      have gz_sv47 : h0.size ≤ sv47 := Nat.le_trans (Nat.le_trans (Nat.le_trans (Nat.le_trans (Nat.le_trans (Nat.le_trans (Nat.le_trans (Nat.le_trans (Nat.le_refl _) K3.1) K7.1) K11.1) E13.1) K15.1) K19.1) K45.1) P48_1
      refine own_fs (st49 _ (Steps.refl _)) ?_
      show own_G p.tables e below _ (T49.setTop (mkF m 156 #[.val (.int x0), .val (.int x1), .val (.int x2), .val (.int x3), .val (.int x4), .val (.int (1 : Int32)), .val (.ref sg1), .val (.ref sg5), .val (.ref sg9), .val (.ref b13), .val (.ref sg1), .val .null, .val (.ref sv43), .unset, .unset, .unset] [(.ref sv47)]))
      refine own_fs (XS.astore X49.here hx rfl (hb hby at_156) rfl rfl (l' := #[.val (.int x0), .val (.int x1), .val (.int x2), .val (.int x3), .val (.int x4), .val (.int (1 : Int32)), .val (.ref sg1), .val (.ref sg5), .val (.ref sg9), .val (.ref b13), .val (.ref sg1), .val .null, .val (.ref sv43), .val (.ref sv47), .unset, .unset]) rfl (Steps.refl _)) ?_
      show own_G p.tables e below _ (T49.setTop (mkF m 158 #[.val (.int x0), .val (.int x1), .val (.int x2), .val (.int x3), .val (.int x4), .val (.int (1 : Int32)), .val (.ref sg1), .val (.ref sg5), .val (.ref sg9), .val (.ref b13), .val (.ref sg1), .val .null, .val (.ref sv43), .val (.ref sv47), .unset, .unset] []))
      obtain ⟨T51, h51, X51, e51, E51, A51, D51, -, st51⟩ := newO X49 hx hZ hown (hw _ (List.mem_of_getElem? (i := 104) rfl)) (hw _ (List.mem_of_getElem? (i := 105) rfl)) (hw _ (List.mem_of_getElem? (i := 106) rfl)) e49 (g := (mkF m 158 #[.val (.int x0), .val (.int x1), .val (.int x2), .val (.int x3), .val (.int x4), .val (.int (1 : Int32)), .val (.ref sg1), .val (.ref sg5), .val (.ref sg9), .val (.ref b13), .val (.ref sg1), .val .null, .val (.ref sv43), .val (.ref sv47), .unset, .unset] [])) rfl (hb hby at_158) (by decide) (by decide)
      obtain ⟨b51, g51⟩ : ∃ z, z = h49.size := ⟨_, rfl⟩
      rw [← g51] at A51 D51 st51
      have ge_b51 : n0 ≤ b51 := Nat.le_trans (Nat.le_trans (Nat.le_trans (Nat.le_trans (Nat.le_trans (Nat.le_trans (Nat.le_trans (Nat.le_trans (Nat.le_trans Z0 K3.1) K7.1) K11.1) E13.1) K15.1) K19.1) K45.1) K49.1) (Nat.le_of_eq g51.symm)
      have gz_b51 : h0.size ≤ b51 := Nat.le_trans (Nat.le_trans (Nat.le_trans (Nat.le_trans (Nat.le_trans (Nat.le_trans (Nat.le_trans (Nat.le_trans (Nat.le_trans (Nat.le_refl _) K3.1) K7.1) K11.1) E13.1) K15.1) K19.1) K45.1) K49.1) (Nat.le_of_eq g51.symm)
      have F_version_b51 : Fld Z h51 b51 "com/example/corbelpath/corbelpath/Deployment$Target" "version" "Ljava/lang/String;" .null := D51 (Or.inr (hw _ (List.mem_of_getElem? (i := 117) rfl))) (ty := (.object "java/lang/String")) (by decide)
      have F_locale_b51 : Fld Z h51 b51 "com/example/corbelpath/corbelpath/Deployment$Target" "locale" "Ljava/lang/String;" .null := D51 (Or.inr (hw _ (List.mem_of_getElem? (i := 119) rfl))) (ty := (.object "java/lang/String")) (by decide)
      have F_library_b51 : Fld Z h51 b51 "com/example/corbelpath/corbelpath/Deployment$Target" "library" "Ljava/lang/String;" .null := D51 (Or.inr (hw _ (List.mem_of_getElem? (i := 121) rfl))) (ty := (.object "java/lang/String")) (by decide)
      have F_path_b51 : Fld Z h51 b51 "com/example/corbelpath/corbelpath/Deployment$Target" "path" "Ljava/util/List;" .null := D51 (Or.inr (hw _ (List.mem_of_getElem? (i := 123) rfl))) (ty := (.object "java/util/List")) (by decide)
      refine own_fs (st51 _ (Steps.refl _)) ?_
      show own_G p.tables e below _ (T51.setTop (mkF m 161 #[.val (.int x0), .val (.int x1), .val (.int x2), .val (.int x3), .val (.int x4), .val (.int (1 : Int32)), .val (.ref sg1), .val (.ref sg5), .val (.ref sg9), .val (.ref b13), .val (.ref sg1), .val .null, .val (.ref sv43), .val (.ref sv47), .unset, .unset] [(.ref b51)]))
      refine own_fs (XS.dup X51.here hx rfl (hb hby at_161) rfl rfl (Steps.refl _)) ?_
      show own_G p.tables e below _ (T51.setTop (mkF m 162 #[.val (.int x0), .val (.int x1), .val (.int x2), .val (.int x3), .val (.int x4), .val (.int (1 : Int32)), .val (.ref sg1), .val (.ref sg5), .val (.ref sg9), .val (.ref b13), .val (.ref sg1), .val .null, .val (.ref sv43), .val (.ref sv47), .unset, .unset] [(.ref b51), (.ref b51)]))
      refine own_fs (XS.aload X51.here hx rfl (hb hby at_162) rfl rfl (Steps.refl _)) ?_
      show own_G p.tables e below _ (T51.setTop (mkF m 164 #[.val (.int x0), .val (.int x1), .val (.int x2), .val (.int x3), .val (.int x4), .val (.int (1 : Int32)), .val (.ref sg1), .val (.ref sg5), .val (.ref sg9), .val (.ref b13), .val (.ref sg1), .val .null, .val (.ref sv43), .val (.ref sv47), .unset, .unset] [(.ref sv43), (.ref b51), (.ref b51)]))
      refine own_fs (XS.aload X51.here hx rfl (hb hby at_164) rfl rfl (Steps.refl _)) ?_
      show own_G p.tables e below _ (T51.setTop (mkF m 166 #[.val (.int x0), .val (.int x1), .val (.int x2), .val (.int x3), .val (.int x4), .val (.int (1 : Int32)), .val (.ref sg1), .val (.ref sg5), .val (.ref sg9), .val (.ref b13), .val (.ref sg1), .val .null, .val (.ref sv43), .val (.ref sv47), .unset, .unset] [.null, (.ref sv43), (.ref b51), (.ref b51)]))
      refine own_fs (XS.aload X51.here hx rfl (hb hby at_166) rfl rfl (Steps.refl _)) ?_
      show own_G p.tables e below _ (T51.setTop (mkF m 168 #[.val (.int x0), .val (.int x1), .val (.int x2), .val (.int x3), .val (.int x4), .val (.int (1 : Int32)), .val (.ref sg1), .val (.ref sg5), .val (.ref sg9), .val (.ref b13), .val (.ref sg1), .val .null, .val (.ref sv43), .val (.ref sv47), .unset, .unset] [(.ref sv47), .null, (.ref sv43), (.ref b51), (.ref b51)]))
      refine own_fs (XS.aload X51.here hx rfl (hb hby at_168) rfl rfl (Steps.refl _)) ?_
      show own_G p.tables e below _ (T51.setTop (mkF m 170 #[.val (.int x0), .val (.int x1), .val (.int x2), .val (.int x3), .val (.int x4), .val (.int (1 : Int32)), .val (.ref sg1), .val (.ref sg5), .val (.ref sg9), .val (.ref b13), .val (.ref sg1), .val .null, .val (.ref sv43), .val (.ref sv47), .unset, .unset] [(.ref b13), (.ref sv47), .null, (.ref sv43), (.ref b51), (.ref b51)]))
      have Zs54 : n0 ≤ h51.size := (Nat.le_trans (Nat.le_trans (Nat.le_trans (Nat.le_trans (Nat.le_trans (Nat.le_trans (Nat.le_trans (Nat.le_trans (Nat.le_trans Z0 K3.1) K7.1) K11.1) E13.1) K15.1) K19.1) K45.1) K49.1) E51.1)
      obtain ⟨_, _, ⟨T53, L53, k53, n53⟩, -, X53, ⟨Lc53, hQ53, l53, y53, z53⟩, st53⟩ := X51.specialBack hx (y := (⟨"com/example/corbelpath/corbelpath/Deployment$Target", "<init>", "(Ljava/lang/String;Ljava/lang/String;Ljava/lang/String;Ljava/util/List;)V"⟩ : MethodName)) rfl hown (mvT hZ (hw _ (List.mem_of_getElem? (i := 107) rfl))) (mvT hZ (hw _ (List.mem_of_getElem? (i := 108) rfl))) (mvT hZ (hw _ (List.mem_of_getElem? (i := 109) rfl))) (by decide) (backOf (W := 1) (own_i_Target1 l Z a0 hw [] b51 sv43 sv47 b13 (.null) (.null) (.null) (.null) h51 n0 Zs54 A51 F_version_b51 F_locale_b51 F_library_b51 F_path_b51 ge_b51) hZ (hw _ (List.mem_of_getElem? (i := 109) rfl)) (hw _ (List.mem_of_getElem? (i := 106) rfl)) (by decide) (by decide)) (g := (mkF m 170 #[.val (.int x0), .val (.int x1), .val (.int x2), .val (.int x3), .val (.int x4), .val (.int (1 : Int32)), .val (.ref sg1), .val (.ref sg5), .val (.ref sg9), .val (.ref b13), .val (.ref sg1), .val .null, .val (.ref sv43), .val (.ref sv47), .unset, .unset] [(.ref b13), (.ref sv47), .null, (.ref sv43), (.ref b51), (.ref b51)])) rfl (by rw [hml]; rfl) (Steps.refl _) (a := b51) (argsL := [(.ref sv43), .null, (.ref sv47), (.ref b13)]) (rest := [(.ref b51)]) (lenOf own_pd15 rfl) rfl (by show 2 * 0 + _ ≤ _; exact Nat.le_of_eq rfl) (hb hby at_170) (fun _ _ => ⟨rfl, e51, (by decide : 16 + 0 ≤ _), (by decide : 51 + 0 ≤ _)⟩)
      dsimp only [Pt.U, Pt.locs, Pt.cells, Pt.slots] at X53 l53 y53 z53 st53 hQ53
      subst l53 y53 z53
      obtain ⟨h53, e53⟩ : ∃ h, T53.heap = h := ⟨_, rfl⟩
      rw [e53] at hQ53
      obtain ⟨rfl, Nq53, K53, P52_0⟩ := hQ53
      have N53 := Fr.app N49 Nq53
      refine own_fs st53 ?_
      show own_G p.tables e below _ (T53.setTop (mkF m 173 #[.val (.int x0), .val (.int x1), .val (.int x2), .val (.int x3), .val (.int x4), .val (.int (1 : Int32)), .val (.ref sg1), .val (.ref sg5), .val (.ref sg9), .val (.ref b13), .val (.ref sg1), .val .null, .val (.ref sv43), .val (.ref sv47), .unset, .unset] [(.ref b51)]))
      refine own_fs (XS.astore X53.here hx rfl (hb hby at_173) rfl rfl (l' := #[.val (.int x0), .val (.int x1), .val (.int x2), .val (.int x3), .val (.int x4), .val (.int (1 : Int32)), .val (.ref sg1), .val (.ref sg5), .val (.ref sg9), .val (.ref b13), .val (.ref sg1), .val .null, .val (.ref sv43), .val (.ref sv47), .val (.ref b51), .unset]) rfl (Steps.refl _)) ?_
      show own_G p.tables e below _ (T53.setTop (mkF m 175 #[.val (.int x0), .val (.int x1), .val (.int x2), .val (.int x3), .val (.int x4), .val (.int (1 : Int32)), .val (.ref sg1), .val (.ref sg5), .val (.ref sg9), .val (.ref b13), .val (.ref sg1), .val .null, .val (.ref sv43), .val (.ref sv47), .val (.ref b51), .unset] []))
      refine own_fs (XS.aload X53.here hx rfl (hb hby at_175) rfl rfl (Steps.refl _)) ?_
      show own_G p.tables e below _ (T53.setTop (mkF m 177 #[.val (.int x0), .val (.int x1), .val (.int x2), .val (.int x3), .val (.int x4), .val (.int (1 : Int32)), .val (.ref sg1), .val (.ref sg5), .val (.ref sg9), .val (.ref b13), .val (.ref sg1), .val .null, .val (.ref sv43), .val (.ref sv47), .val (.ref b51), .unset] [(.ref b51)]))
      have Zs57 : n0 ≤ h53.size := (Nat.le_trans (Nat.le_trans (Nat.le_trans (Nat.le_trans (Nat.le_trans (Nat.le_trans (Nat.le_trans (Nat.le_trans (Nat.le_trans (Nat.le_trans Z0 K3.1) K7.1) K11.1) E13.1) K15.1) K19.1) K45.1) K49.1) E51.1) K53.1)
      obtain ⟨cq56, kq56, q56a, q56b, q56c⟩ := isOf hZ e53 (A51.keep K53)
      obtain ⟨_, _, ⟨T56, L56, k56, n56⟩, -, X56, ⟨Lc56, hQ56, l56, y56, z56⟩, st56⟩ := X53.virtualBack hx (y := (⟨"com/example/corbelpath/corbelpath/Deployment$Target", "fileName", "()Ljava/lang/String;"⟩ : MethodName)) (z := (⟨"com/example/corbelpath/corbelpath/Deployment$Target", "fileName", "()Ljava/lang/String;"⟩ : MethodName)) hown (mvT hZ (hw _ (List.mem_of_getElem? (i := 124) rfl))) (mvT hZ (hw _ (List.mem_of_getElem? (i := 125) rfl))) (notFace_of_selects (args := #[]) (mvT hZ (hw _ (List.mem_of_getElem? (i := 127) rfl)))) (mvT hZ (hw _ (List.mem_of_getElem? (i := 127) rfl))) (mvT hZ (hw _ (List.mem_of_getElem? (i := 126) rfl))) (by decide) (backOf (W := 0) (own_fname1 l Z a0 hw [] b51 b13 sg1 br17 kr17 h53 n0 Zs57 P52_0 ((Exa.ext E51 ((((A13.keep K15).keep K19).keep K45).keep K49)).keep K53) ((Fld.ext E51 ((P18_2.keep K45 nin0).keep K49 nin0)).keep K53 (ninS (Nat.ne_of_lt (Nat.lt_of_lt_of_le (Exa.lt ((((A13.keep K15).keep K19).keep K45).keep K49)) (Nat.le_of_eq g51.symm))) nin0)) ((Fld.ext E51 ((P18_1.keep K45 nin0).keep K49 nin0)).keep K53 (ninS (Nat.ne_of_lt (Nat.lt_of_lt_of_le (Exa.lt ((((A13.keep K15).keep K19).keep K45).keep K49)) (Nat.le_of_eq g51.symm))) nin0)) ((((P18_4.keep K45 nin0).keep K49 nin0).ext E51).keep K53 (ninS (Nat.ne_of_lt (Nat.lt_of_lt_of_le (Arv.lt ((P18_4.keep K45 nin0).keep K49 nin0)) (Nat.le_of_eq g51.symm))) nin0)) ((Exa.ext E51 (((((Exa.ext E13 ((P2_0.keep K7).keep K11)).keep K15).keep K19).keep K45).keep K49)).keep K53)) hZ (hw _ (List.mem_of_getElem? (i := 128) rfl)) (hw _ (List.mem_of_getElem? (i := 106) rfl)) (by decide) (by decide)) q56a q56c (g := (mkF m 177 #[.val (.int x0), .val (.int x1), .val (.int x2), .val (.int x3), .val (.int x4), .val (.int (1 : Int32)), .val (.ref sg1), .val (.ref sg5), .val (.ref sg9), .val (.ref b13), .val (.ref sg1), .val .null, .val (.ref sv43), .val (.ref sv47), .val (.ref b51), .unset] [(.ref b51)])) rfl (by rw [hml]; rfl) (Steps.refl _) (argsL := []) (rest := []) (lenOf own_pd16 rfl) rfl (by show 2 * 0 + _ ≤ _; exact Nat.le_of_eq rfl) (hb hby at_177) (fun _ _ => ⟨rfl, e53, (by decide : 16 + 0 ≤ _), (by decide : 51 + 0 ≤ _)⟩)
      dsimp only [Pt.U, Pt.locs, Pt.cells, Pt.slots] at X56 l56 y56 z56 st56 hQ56
      subst l56 y56 z56
      obtain ⟨rfl, Nq56, e56⟩ := hQ56
      have N56 := Fr.app N53 Nq56
      refine own_fs st56 ?_
      show own_G p.tables e below _ (T56.setTop (mkF m 180 #[.val (.int x0), .val (.int x1), .val (.int x2), .val (.int x3), .val (.int x4), .val (.int (1 : Int32)), .val (.ref sg1), .val (.ref sg5), .val (.ref sg9), .val (.ref b13), .val (.ref sg1), .val .null, .val (.ref sv43), .val (.ref sv47), .val (.ref b51), .unset] [(.ref sg1)]))
      refine own_fs (XS.astore X56.here hx rfl (hb hby at_180) rfl rfl (l' := #[.val (.int x0), .val (.int x1), .val (.int x2), .val (.int x3), .val (.int x4), .val (.int (1 : Int32)), .val (.ref sg1), .val (.ref sg5), .val (.ref sg9), .val (.ref b13), .val (.ref sg1), .val .null, .val (.ref sv43), .val (.ref sv47), .val (.ref b51), .val (.ref sg1)]) rfl (Steps.refl _)) ?_
      show own_G p.tables e below _ (T56.setTop (mkF m 182 #[.val (.int x0), .val (.int x1), .val (.int x2), .val (.int x3), .val (.int x4), .val (.int (1 : Int32)), .val (.ref sg1), .val (.ref sg5), .val (.ref sg9), .val (.ref b13), .val (.ref sg1), .val .null, .val (.ref sv43), .val (.ref sv47), .val (.ref b51), .val (.ref sg1)] []))
      refine own_fs (XS.aload X56.here hx rfl (hb hby at_182) rfl rfl (Steps.refl _)) ?_
      show own_G p.tables e below _ (T56.setTop (mkF m 184 #[.val (.int x0), .val (.int x1), .val (.int x2), .val (.int x3), .val (.int x4), .val (.int (1 : Int32)), .val (.ref sg1), .val (.ref sg5), .val (.ref sg9), .val (.ref b13), .val (.ref sg1), .val .null, .val (.ref sv43), .val (.ref sv47), .val (.ref b51), .val (.ref sg1)] [(.ref sg1)]))
      refine own_fs (XS.ifnullNo X56.here hx rfl (hb hby at_184) rfl (Steps.refl _)) ?_
      show own_G p.tables e below _ (T56.setTop (mkF m 187 #[.val (.int x0), .val (.int x1), .val (.int x2), .val (.int x3), .val (.int x4), .val (.int (1 : Int32)), .val (.ref sg1), .val (.ref sg5), .val (.ref sg9), .val (.ref b13), .val (.ref sg1), .val .null, .val (.ref sv43), .val (.ref sv47), .val (.ref b51), .val (.ref sg1)] []))
      refine own_fs (XS.aload X56.here hx rfl (hb hby at_187) rfl rfl (Steps.refl _)) ?_
      show own_G p.tables e below _ (T56.setTop (mkF m 189 #[.val (.int x0), .val (.int x1), .val (.int x2), .val (.int x3), .val (.int x4), .val (.int (1 : Int32)), .val (.ref sg1), .val (.ref sg5), .val (.ref sg9), .val (.ref b13), .val (.ref sg1), .val .null, .val (.ref sv43), .val (.ref sv47), .val (.ref b51), .val (.ref sg1)] [(.ref sg1)]))
      refine own_fs (XS.aload X56.here hx rfl (hb hby at_189) rfl rfl (Steps.refl _)) ?_
      show own_G p.tables e below _ (T56.setTop (mkF m 191 #[.val (.int x0), .val (.int x1), .val (.int x2), .val (.int x3), .val (.int x4), .val (.int (1 : Int32)), .val (.ref sg1), .val (.ref sg5), .val (.ref sg9), .val (.ref b13), .val (.ref sg1), .val .null, .val (.ref sv43), .val (.ref sv47), .val (.ref b51), .val (.ref sg1)] [(.ref sg1), (.ref sg1)]))
      have Zs60 : n0 ≤ h53.size := (Nat.le_trans (Nat.le_trans (Nat.le_trans (Nat.le_trans (Nat.le_trans (Nat.le_trans (Nat.le_trans (Nat.le_trans (Nat.le_trans (Nat.le_trans Z0 K3.1) K7.1) K11.1) E13.1) K15.1) K19.1) K45.1) K49.1) E51.1) K53.1)
      obtain ⟨cq59, kq59, q59a, q59b, q59c⟩ := isOf hZ e56 ((Exa.ext E51 (((((Exa.ext E13 ((P2_0.keep K7).keep K11)).keep K15).keep K19).keep K45).keep K49)).keep K53)
      obtain ⟨_, _, ⟨T59, L59, k59, n59⟩, -, X59, ⟨Lc59, hQ59, l59, y59, z59⟩, st59⟩ := X56.virtualBack hx (y := (⟨"java/lang/String", "equals", "(Ljava/lang/Object;)Z"⟩ : MethodName)) (z := (⟨"java/lang/String", "equals", "(Ljava/lang/Object;)Z"⟩ : MethodName)) hown (mvT hZ (hw _ (List.mem_of_getElem? (i := 160) rfl))) (mvT hZ (hw _ (List.mem_of_getElem? (i := 161) rfl))) (notFace_of_selects (args := #[]) (mvT hZ (hw _ (List.mem_of_getElem? (i := 163) rfl)))) (mvT hZ (hw _ (List.mem_of_getElem? (i := 163) rfl))) (mvT hZ (hw _ (List.mem_of_getElem? (i := 162) rfl))) (by decide) (backOf (W := 0) (own_streq l Z a0 hw [] sg1 h53 n0 Zs60 ) hZ (hw _ (List.mem_of_getElem? (i := 164) rfl)) (hw _ (List.mem_of_getElem? (i := 8) rfl)) (by decide) (by decide)) q59a q59c (g := (mkF m 191 #[.val (.int x0), .val (.int x1), .val (.int x2), .val (.int x3), .val (.int x4), .val (.int (1 : Int32)), .val (.ref sg1), .val (.ref sg5), .val (.ref sg9), .val (.ref b13), .val (.ref sg1), .val .null, .val (.ref sv43), .val (.ref sv47), .val (.ref b51), .val (.ref sg1)] [(.ref sg1), (.ref sg1)])) rfl (by rw [hml]; rfl) (Steps.refl _) (argsL := [(.ref sg1)]) (rest := []) (lenOf own_pd13 rfl) rfl (by show 2 * 0 + _ ≤ _; exact Nat.le_of_eq rfl) (hb hby at_191) (fun _ _ => ⟨rfl, e56, (by decide : 16 + 0 ≤ _), (by decide : 51 + 0 ≤ _)⟩)
      dsimp only [Pt.U, Pt.locs, Pt.cells, Pt.slots] at X59 l59 y59 z59 st59 hQ59
      subst l59 y59 z59
      obtain ⟨rfl, Nq59, e59⟩ := hQ59
      have N59 := Fr.app N56 Nq59
      refine own_fs st59 ?_
      show own_G p.tables e below _ (T59.setTop (mkF m 194 #[.val (.int x0), .val (.int x1), .val (.int x2), .val (.int x3), .val (.int x4), .val (.int (1 : Int32)), .val (.ref sg1), .val (.ref sg5), .val (.ref sg9), .val (.ref b13), .val (.ref sg1), .val .null, .val (.ref sv43), .val (.ref sv47), .val (.ref b51), .val (.ref sg1)] [(.int (1 : Int32))]))
      refine own_fs (XS.ifNo X59.here hx rfl (hb hby at_194) rfl (XT.i0_eq_f (by decide : ¬ ((1 : Int32) = (0 : Int32)))) (Steps.refl _)) ?_
      show own_G p.tables e below _ (T59.setTop (mkF m 197 #[.val (.int x0), .val (.int x1), .val (.int x2), .val (.int x3), .val (.int x4), .val (.int (1 : Int32)), .val (.ref sg1), .val (.ref sg5), .val (.ref sg9), .val (.ref b13), .val (.ref sg1), .val .null, .val (.ref sv43), .val (.ref sv47), .val (.ref b51), .val (.ref sg1)] []))
      refine own_fs (XS.iconst X59.here hx rfl (hb hby at_197) (Steps.refl _)) ?_
      show own_G p.tables e below _ (T59.setTop (mkF m 198 #[.val (.int x0), .val (.int x1), .val (.int x2), .val (.int x3), .val (.int x4), .val (.int (1 : Int32)), .val (.ref sg1), .val (.ref sg5), .val (.ref sg9), .val (.ref b13), .val (.ref sg1), .val .null, .val (.ref sv43), .val (.ref sv47), .val (.ref b51), .val (.ref sg1)] [(.int (1 : Int32))]))
      refine own_fs (XS.goto X59.here hx rfl (pc0 := 198) (pc' := 202) rfl (hb hby at_198) (by decide) (by decide) (Steps.refl _)) ?_
      show own_G p.tables e below _ (T59.setTop (mkF m 202 #[.val (.int x0), .val (.int x1), .val (.int x2), .val (.int x3), .val (.int x4), .val (.int (1 : Int32)), .val (.ref sg1), .val (.ref sg5), .val (.ref sg9), .val (.ref b13), .val (.ref sg1), .val .null, .val (.ref sv43), .val (.ref sv47), .val (.ref b51), .val (.ref sg1)] [(.int (1 : Int32))]))
      exact own_retN X59 hx (t := .boolean) Bd.returns hlk (by simp) (hb hby at_202) (by decide) (by decide) e59 ⟨rfl, N59⟩
  · rw [hn]
    show own_G p.tables e below _ (T19.setTop (mkF m 45 #[.val (.int x0), .val (.int x1), .val (.int x2), .val (.int x3), .val (.int x4), .val (.int (2 : Int32)), .val (.ref sg1), .val (.ref sg5), .val (.ref sg9), .val (.ref b13), .unset, .unset, .unset, .unset, .unset, .unset] []))
    refine own_fs (XS.iload X19.here hx rfl (hb hby at_45) rfl (Steps.refl _)) ?_
    show own_G p.tables e below _ (T19.setTop (mkF m 47 #[.val (.int x0), .val (.int x1), .val (.int x2), .val (.int x3), .val (.int x4), .val (.int (2 : Int32)), .val (.ref sg1), .val (.ref sg5), .val (.ref sg9), .val (.ref b13), .unset, .unset, .unset, .unset, .unset, .unset] [(.int (2 : Int32))]))
    refine own_fs (XS.iconst X19.here hx rfl (hb hby at_47) (Steps.refl _)) ?_
    show own_G p.tables e below _ (T19.setTop (mkF m 48 #[.val (.int x0), .val (.int x1), .val (.int x2), .val (.int x3), .val (.int x4), .val (.int (2 : Int32)), .val (.ref sg1), .val (.ref sg5), .val (.ref sg9), .val (.ref b13), .unset, .unset, .unset, .unset, .unset, .unset] [(.int (2 : Int32)), (.int (2 : Int32))]))
    refine own_fs (XS.icmpNo X19.here hx rfl (hb hby at_48) rfl (XT.ii_lt_f (by decide : ¬ ((2 : Int32) < (2 : Int32)))) (Steps.refl _)) ?_
    show own_G p.tables e below _ (T19.setTop (mkF m 51 #[.val (.int x0), .val (.int x1), .val (.int x2), .val (.int x3), .val (.int x4), .val (.int (2 : Int32)), .val (.ref sg1), .val (.ref sg5), .val (.ref sg9), .val (.ref b13), .unset, .unset, .unset, .unset, .unset, .unset] []))
    refine own_fs (XS.aload X19.here hx rfl (hb hby at_51) rfl rfl (Steps.refl _)) ?_
    show own_G p.tables e below _ (T19.setTop (mkF m 53 #[.val (.int x0), .val (.int x1), .val (.int x2), .val (.int x3), .val (.int x4), .val (.int (2 : Int32)), .val (.ref sg1), .val (.ref sg5), .val (.ref sg9), .val (.ref b13), .unset, .unset, .unset, .unset, .unset, .unset] [(.ref b13)]))
    refine own_fs (XS.aload X19.here hx rfl (hb hby at_53) rfl rfl (Steps.refl _)) ?_
    show own_G p.tables e below _ (T19.setTop (mkF m 55 #[.val (.int x0), .val (.int x1), .val (.int x2), .val (.int x3), .val (.int x4), .val (.int (2 : Int32)), .val (.ref sg1), .val (.ref sg5), .val (.ref sg9), .val (.ref b13), .unset, .unset, .unset, .unset, .unset, .unset] [(.ref sg5), (.ref b13)]))
    have Zs63 : n0 ≤ h19.size := (Nat.le_trans (Nat.le_trans (Nat.le_trans (Nat.le_trans (Nat.le_trans (Nat.le_trans Z0 K3.1) K7.1) K11.1) E13.1) K15.1) K19.1)
    obtain ⟨cq62, kq62, q62a, q62b, q62c⟩ := isOf hZ e19 ((A13.keep K15).keep K19)
    obtain ⟨_, _, ⟨T62, L62, k62, n62⟩, -, X62, ⟨Lc62, hQ62, l62, y62, z62⟩, st62⟩ := X19.virtualBack hx (y := (⟨"java/util/ArrayList", "add", "(Ljava/lang/Object;)Z"⟩ : MethodName)) (z := (⟨"java/util/ArrayList", "add", "(Ljava/lang/Object;)Z"⟩ : MethodName)) hown (mvT hZ (hw _ (List.mem_of_getElem? (i := 59) rfl))) (mvT hZ (hw _ (List.mem_of_getElem? (i := 60) rfl))) (notFace_of_selects (args := #[]) (mvT hZ (hw _ (List.mem_of_getElem? (i := 62) rfl)))) (mvT hZ (hw _ (List.mem_of_getElem? (i := 62) rfl))) (mvT hZ (hw _ (List.mem_of_getElem? (i := 61) rfl))) (by decide) (backOf (W := 0) (own_add1 l Z a0 hw [] b13 sg1 sg5 ((0 : Int32) + (1 : Int32)) br17 kr17 h19 n0 Zs63 ((A13.keep K15).keep K19) P18_0 P18_1 P18_2 ge_b13 P18_4 P18_5 ge_br17 (Nat.ne_of_lt (Nat.lt_of_lt_of_le (Exa.lt (A13.keep K15)) P18_3)) (((Exa.ext E13 (P6_0.keep K11)).keep K15).keep K19)) hZ (hw _ (List.mem_of_getElem? (i := 63) rfl)) (hw _ (List.mem_of_getElem? (i := 37) rfl)) (by decide) (by decide)) q62a q62c (g := (mkF m 55 #[.val (.int x0), .val (.int x1), .val (.int x2), .val (.int x3), .val (.int x4), .val (.int (2 : Int32)), .val (.ref sg1), .val (.ref sg5), .val (.ref sg9), .val (.ref b13), .unset, .unset, .unset, .unset, .unset, .unset] [(.ref sg5), (.ref b13)])) rfl (by rw [hml]; rfl) (Steps.refl _) (argsL := [(.ref sg5)]) (rest := []) (lenOf own_pd13 rfl) rfl (by show 2 * 0 + _ ≤ _; exact Nat.le_of_eq rfl) (hb hby at_55) (fun _ _ => ⟨rfl, e19, (by decide : 11 + 0 ≤ _), (by decide : 37 + 0 ≤ _)⟩)
    dsimp only [Pt.U, Pt.locs, Pt.cells, Pt.slots] at X62 l62 y62 z62 st62 hQ62
    subst l62 y62 z62
    obtain ⟨h62, e62⟩ : ∃ h, T62.heap = h := ⟨_, rfl⟩
    rw [e62] at hQ62
    obtain ⟨rfl, Nq62, K62, P61_0, P61_1, P61_2, P61_3⟩ := hQ62
    have N62 := Fr.app N19 Nq62
    refine own_fs st62 ?_
    show own_G p.tables e below _ (T62.setTop (mkF m 58 #[.val (.int x0), .val (.int x1), .val (.int x2), .val (.int x3), .val (.int x4), .val (.int (2 : Int32)), .val (.ref sg1), .val (.ref sg5), .val (.ref sg9), .val (.ref b13), .unset, .unset, .unset, .unset, .unset, .unset] [(.int (1 : Int32))]))
    refine own_fs (XS.pop X62.here hx rfl (hb hby at_58) rfl rfl (Steps.refl _)) ?_
    show own_G p.tables e below _ (T62.setTop (mkF m 59 #[.val (.int x0), .val (.int x1), .val (.int x2), .val (.int x3), .val (.int x4), .val (.int (2 : Int32)), .val (.ref sg1), .val (.ref sg5), .val (.ref sg9), .val (.ref b13), .unset, .unset, .unset, .unset, .unset, .unset] []))
    refine own_fs (XS.iload X62.here hx rfl (hb hby at_59) rfl (Steps.refl _)) ?_
    show own_G p.tables e below _ (T62.setTop (mkF m 61 #[.val (.int x0), .val (.int x1), .val (.int x2), .val (.int x3), .val (.int x4), .val (.int (2 : Int32)), .val (.ref sg1), .val (.ref sg5), .val (.ref sg9), .val (.ref b13), .unset, .unset, .unset, .unset, .unset, .unset] [(.int (2 : Int32))]))
    refine own_fs (XS.iconst X62.here hx rfl (hb hby at_61) (Steps.refl _)) ?_
    show own_G p.tables e below _ (T62.setTop (mkF m 62 #[.val (.int x0), .val (.int x1), .val (.int x2), .val (.int x3), .val (.int x4), .val (.int (2 : Int32)), .val (.ref sg1), .val (.ref sg5), .val (.ref sg9), .val (.ref b13), .unset, .unset, .unset, .unset, .unset, .unset] [(.int (3 : Int32)), (.int (2 : Int32))]))
    refine own_fs (XS.icmpYes X62.here hx rfl (pc0 := 62) (pc' := 73) rfl (hb hby at_62) rfl (XT.ii_lt_t (by decide : (2 : Int32) < (3 : Int32))) (by decide) (by decide) (Steps.refl _)) ?_
    show own_G p.tables e below _ (T62.setTop (mkF m 73 #[.val (.int x0), .val (.int x1), .val (.int x2), .val (.int x3), .val (.int x4), .val (.int (2 : Int32)), .val (.ref sg1), .val (.ref sg5), .val (.ref sg9), .val (.ref b13), .unset, .unset, .unset, .unset, .unset, .unset] []))
    refine own_fs (XS.iload X62.here hx rfl (hb hby at_73) rfl (Steps.refl _)) ?_
    show own_G p.tables e below _ (T62.setTop (mkF m 75 #[.val (.int x0), .val (.int x1), .val (.int x2), .val (.int x3), .val (.int x4), .val (.int (2 : Int32)), .val (.ref sg1), .val (.ref sg5), .val (.ref sg9), .val (.ref b13), .unset, .unset, .unset, .unset, .unset, .unset] [(.int (2 : Int32))]))
    refine own_fs (XS.iconst X62.here hx rfl (hb hby at_75) (Steps.refl _)) ?_
    show own_G p.tables e below _ (T62.setTop (mkF m 76 #[.val (.int x0), .val (.int x1), .val (.int x2), .val (.int x3), .val (.int x4), .val (.int (2 : Int32)), .val (.ref sg1), .val (.ref sg5), .val (.ref sg9), .val (.ref b13), .unset, .unset, .unset, .unset, .unset, .unset] [(.int (1 : Int32)), (.int (2 : Int32))]))
    refine own_fs (XS.icmpYes X62.here hx rfl (pc0 := 76) (pc' := 86) rfl (hb hby at_76) rfl (XT.ii_ne_t (by decide : ¬ ((2 : Int32) = (1 : Int32)))) (by decide) (by decide) (Steps.refl _)) ?_
    show own_G p.tables e below _ (T62.setTop (mkF m 86 #[.val (.int x0), .val (.int x1), .val (.int x2), .val (.int x3), .val (.int x4), .val (.int (2 : Int32)), .val (.ref sg1), .val (.ref sg5), .val (.ref sg9), .val (.ref b13), .unset, .unset, .unset, .unset, .unset, .unset] []))
    refine own_fs (XS.iload X62.here hx rfl (hb hby at_86) rfl (Steps.refl _)) ?_
    show own_G p.tables e below _ (T62.setTop (mkF m 88 #[.val (.int x0), .val (.int x1), .val (.int x2), .val (.int x3), .val (.int x4), .val (.int (2 : Int32)), .val (.ref sg1), .val (.ref sg5), .val (.ref sg9), .val (.ref b13), .unset, .unset, .unset, .unset, .unset, .unset] [(.int (2 : Int32))]))
    refine own_fs (XS.iconst X62.here hx rfl (hb hby at_88) (Steps.refl _)) ?_
    show own_G p.tables e below _ (T62.setTop (mkF m 89 #[.val (.int x0), .val (.int x1), .val (.int x2), .val (.int x3), .val (.int x4), .val (.int (2 : Int32)), .val (.ref sg1), .val (.ref sg5), .val (.ref sg9), .val (.ref b13), .unset, .unset, .unset, .unset, .unset, .unset] [(.int (2 : Int32)), (.int (2 : Int32))]))
    refine own_fs (XS.icmpNo X62.here hx rfl (hb hby at_89) rfl (XT.ii_ne_f (by decide : (2 : Int32) = (2 : Int32))) (Steps.refl _)) ?_
    show own_G p.tables e below _ (T62.setTop (mkF m 92 #[.val (.int x0), .val (.int x1), .val (.int x2), .val (.int x3), .val (.int x4), .val (.int (2 : Int32)), .val (.ref sg1), .val (.ref sg5), .val (.ref sg9), .val (.ref b13), .unset, .unset, .unset, .unset, .unset, .unset] []))
    refine own_fs (XS.aload X62.here hx rfl (hb hby at_92) rfl rfl (Steps.refl _)) ?_
    show own_G p.tables e below _ (T62.setTop (mkF m 94 #[.val (.int x0), .val (.int x1), .val (.int x2), .val (.int x3), .val (.int x4), .val (.int (2 : Int32)), .val (.ref sg1), .val (.ref sg5), .val (.ref sg9), .val (.ref b13), .unset, .unset, .unset, .unset, .unset, .unset] [(.ref sg5)]))
    refine own_fs (XS.astore X62.here hx rfl (hb hby at_94) rfl rfl (l' := #[.val (.int x0), .val (.int x1), .val (.int x2), .val (.int x3), .val (.int x4), .val (.int (2 : Int32)), .val (.ref sg1), .val (.ref sg5), .val (.ref sg9), .val (.ref b13), .val (.ref sg5), .unset, .unset, .unset, .unset, .unset]) rfl (Steps.refl _)) ?_
    show own_G p.tables e below _ (T62.setTop (mkF m 96 #[.val (.int x0), .val (.int x1), .val (.int x2), .val (.int x3), .val (.int x4), .val (.int (2 : Int32)), .val (.ref sg1), .val (.ref sg5), .val (.ref sg9), .val (.ref b13), .val (.ref sg5), .unset, .unset, .unset, .unset, .unset] []))
    refine own_fs (XS.goto X62.here hx rfl (pc0 := 96) (pc' := 103) rfl (hb hby at_96) (by decide) (by decide) (Steps.refl _)) ?_
    show own_G p.tables e below _ (T62.setTop (mkF m 103 #[.val (.int x0), .val (.int x1), .val (.int x2), .val (.int x3), .val (.int x4), .val (.int (2 : Int32)), .val (.ref sg1), .val (.ref sg5), .val (.ref sg9), .val (.ref b13), .val (.ref sg5), .unset, .unset, .unset, .unset, .unset] []))
    refine own_fs (XS.iload X62.here hx rfl (hb hby at_103) rfl (Steps.refl _)) ?_
    show own_G p.tables e below _ (T62.setTop (mkF m 105 #[.val (.int x0), .val (.int x1), .val (.int x2), .val (.int x3), .val (.int x4), .val (.int (2 : Int32)), .val (.ref sg1), .val (.ref sg5), .val (.ref sg9), .val (.ref b13), .val (.ref sg5), .unset, .unset, .unset, .unset, .unset] [(.int x4)]))
    refine own_fs (XS.iconst X62.here hx rfl (hb hby at_105) (Steps.refl _)) ?_
    show own_G p.tables e below _ (T62.setTop (mkF m 106 #[.val (.int x0), .val (.int x1), .val (.int x2), .val (.int x3), .val (.int x4), .val (.int (2 : Int32)), .val (.ref sg1), .val (.ref sg5), .val (.ref sg9), .val (.ref b13), .val (.ref sg5), .unset, .unset, .unset, .unset, .unset] [(.int (1 : Int32)), (.int x4)]))
    refine own_fs (XS.iand X62.here hx rfl (hb hby at_106) rfl (Steps.refl _)) ?_
    show own_G p.tables e below _ (T62.setTop (mkF m 107 #[.val (.int x0), .val (.int x1), .val (.int x2), .val (.int x3), .val (.int x4), .val (.int (2 : Int32)), .val (.ref sg1), .val (.ref sg5), .val (.ref sg9), .val (.ref b13), .val (.ref sg5), .unset, .unset, .unset, .unset, .unset] [(.int (x4 &&& (1 : Int32)))]))
    by_cases hc107 : (x4 &&& (1 : Int32)) = (0 : Int32)
    · refine own_fs (XS.ifYes X62.here hx rfl (pc0 := 107) (pc' := 114) rfl (hb hby at_107) rfl (XT.i0_eq_t hc107) (by decide) (by decide) (Steps.refl _)) ?_
      show own_G p.tables e below _ (T62.setTop (mkF m 114 #[.val (.int x0), .val (.int x1), .val (.int x2), .val (.int x3), .val (.int x4), .val (.int (2 : Int32)), .val (.ref sg1), .val (.ref sg5), .val (.ref sg9), .val (.ref b13), .val (.ref sg5), .unset, .unset, .unset, .unset, .unset] []))
      refine own_fs (XS.iload X62.here hx rfl (hb hby at_114) rfl (Steps.refl _)) ?_
      show own_G p.tables e below _ (T62.setTop (mkF m 116 #[.val (.int x0), .val (.int x1), .val (.int x2), .val (.int x3), .val (.int x4), .val (.int (2 : Int32)), .val (.ref sg1), .val (.ref sg5), .val (.ref sg9), .val (.ref b13), .val (.ref sg5), .unset, .unset, .unset, .unset, .unset] [(.int x4)]))
      refine own_fs (XS.iconst X62.here hx rfl (hb hby at_116) (Steps.refl _)) ?_
      show own_G p.tables e below _ (T62.setTop (mkF m 117 #[.val (.int x0), .val (.int x1), .val (.int x2), .val (.int x3), .val (.int x4), .val (.int (2 : Int32)), .val (.ref sg1), .val (.ref sg5), .val (.ref sg9), .val (.ref b13), .val (.ref sg5), .unset, .unset, .unset, .unset, .unset] [(.int (1 : Int32)), (.int x4)]))
      refine own_fs (XS.iushr X62.here hx rfl (hb hby at_117) rfl (Steps.refl _)) ?_
      show own_G p.tables e below _ (T62.setTop (mkF m 118 #[.val (.int x0), .val (.int x1), .val (.int x2), .val (.int x3), .val (.int x4), .val (.int (2 : Int32)), .val (.ref sg1), .val (.ref sg5), .val (.ref sg9), .val (.ref b13), .val (.ref sg5), .unset, .unset, .unset, .unset, .unset] [(.int ((x4.toUInt32 >>> ((1 : Int32) &&& 31).toUInt32).toInt32))]))
      refine own_fs (XS.sipush X62.here hx rfl (hb hby at_118) (Steps.refl _)) ?_
      show own_G p.tables e below _ (T62.setTop (mkF m 121 #[.val (.int x0), .val (.int x1), .val (.int x2), .val (.int x3), .val (.int x4), .val (.int (2 : Int32)), .val (.ref sg1), .val (.ref sg5), .val (.ref sg9), .val (.ref b13), .val (.ref sg5), .unset, .unset, .unset, .unset, .unset] [(.int (255 : Int32)), (.int ((x4.toUInt32 >>> ((1 : Int32) &&& 31).toUInt32).toInt32))]))
      refine own_fs (XS.iand X62.here hx rfl (hb hby at_121) rfl (Steps.refl _)) ?_
      show own_G p.tables e below _ (T62.setTop (mkF m 122 #[.val (.int x0), .val (.int x1), .val (.int x2), .val (.int x3), .val (.int x4), .val (.int (2 : Int32)), .val (.ref sg1), .val (.ref sg5), .val (.ref sg9), .val (.ref b13), .val (.ref sg5), .unset, .unset, .unset, .unset, .unset] [(.int (((x4.toUInt32 >>> ((1 : Int32) &&& 31).toUInt32).toInt32) &&& (255 : Int32)))]))
      refine own_fs (XS.i2c X62.here hx rfl (hb hby at_122) rfl (Steps.refl _)) ?_
      show own_G p.tables e below _ (T62.setTop (mkF m 123 #[.val (.int x0), .val (.int x1), .val (.int x2), .val (.int x3), .val (.int x4), .val (.int (2 : Int32)), .val (.ref sg1), .val (.ref sg5), .val (.ref sg9), .val (.ref b13), .val (.ref sg5), .unset, .unset, .unset, .unset, .unset] [(.int ((((x4.toUInt32 >>> ((1 : Int32) &&& 31).toUInt32).toInt32) &&& (255 : Int32)).toUInt32.toUInt16.toUInt32.toInt32))]))
      have Zs67 : n0 ≤ h62.size := (Nat.le_trans (Nat.le_trans (Nat.le_trans (Nat.le_trans (Nat.le_trans (Nat.le_trans (Nat.le_trans Z0 K3.1) K7.1) K11.1) E13.1) K15.1) K19.1) K62.1)
      obtain ⟨_, _, ⟨T66, L66, k66, n66⟩, -, X66, ⟨Lc66, hQ66, l66, y66, z66⟩, st66⟩ := Jvm.LawKit.callS X62 hx (y := (⟨"java/lang/String", "valueOf", "(C)Ljava/lang/String;"⟩ : MethodName)) hown (mvT hZ (hw _ (List.mem_of_getElem? (i := 90) rfl))) (mvT hZ (hw _ (List.mem_of_getElem? (i := 91) rfl))) (mvT hZ (hw _ (List.mem_of_getElem? (i := 8) rfl))) (mvT hZ (hw _ (List.mem_of_getElem? (i := 92) rfl))) (by decide) (backOf (W := 0) (own_valueOfC l Z a0 hw [] ((((x4.toUInt32 >>> ((1 : Int32) &&& 31).toUInt32).toInt32) &&& (255 : Int32)).toUInt32.toUInt16.toUInt32.toInt32) cz h62 n0 Zs67 hSc hcz (Old.keep (Old.keep (Old.keep (Old.ext (Old.keep (Old.keep (Old.keep hOld K3 all0) K7 all0) K11 all0) E13) K15 (allS ge_b13 all0)) K19 (allS ge_b13 all0)) K62 (allS ge_b13 (allS ge_br17 all0))) (own_ch _).2) hZ (hw _ (List.mem_of_getElem? (i := 92) rfl)) (hw _ (List.mem_of_getElem? (i := 8) rfl)) (by decide) (by decide)) (g := (mkF m 123 #[.val (.int x0), .val (.int x1), .val (.int x2), .val (.int x3), .val (.int x4), .val (.int (2 : Int32)), .val (.ref sg1), .val (.ref sg5), .val (.ref sg9), .val (.ref b13), .val (.ref sg5), .unset, .unset, .unset, .unset, .unset] [(.int ((((x4.toUInt32 >>> ((1 : Int32) &&& 31).toUInt32).toInt32) &&& (255 : Int32)).toUInt32.toUInt16.toUInt32.toInt32))])) rfl (by rw [hml]; rfl) (argsL := [(.int ((((x4.toUInt32 >>> ((1 : Int32) &&& 31).toUInt32).toInt32) &&& (255 : Int32)).toUInt32.toUInt16.toUInt32.toInt32))]) (rest := []) (lenOf own_pd14 rfl) rfl (by show 2 * 0 + _ ≤ _; exact Nat.le_of_eq rfl) (hb hby at_123) (fun _ _ => ⟨rfl, e62, (by decide : 11 + 2 ≤ _), (by decide : 37 + 5 ≤ _)⟩)
      dsimp only [Pt.U, Pt.locs, Pt.cells, Pt.slots] at X66 l66 y66 z66 st66 hQ66
      subst l66 y66 z66
      obtain ⟨h66, e66⟩ : ∃ h, T66.heap = h := ⟨_, rfl⟩
      rw [e66] at hQ66
      obtain ⟨sv64, rfl, Nq66, K66, P65_0, P65_1⟩ := hQ66
      have N66 := Fr.app N62 Nq66
      have ge_sv64 : n0 ≤ sv64 := Nat.le_trans (Nat.le_trans (Nat.le_trans (Nat.le_trans (Nat.le_trans (Nat.le_trans (Nat.le_trans (Nat.le_trans Z0 K3.1) K7.1) K11.1) E13.1) K15.1) K19.1) K62.1) P65_1
      have gz_sv64 : h0.size ≤ sv64 := Nat.le_trans (Nat.le_trans (Nat.le_trans (Nat.le_trans (Nat.le_trans (Nat.le_trans (Nat.le_trans (Nat.le_trans (Nat.le_refl _) K3.1) K7.1) K11.1) E13.1) K15.1) K19.1) K62.1) P65_1
      refine own_fs (st66 _ (Steps.refl _)) ?_
      show own_G p.tables e below _ (T66.setTop (mkF m 126 #[.val (.int x0), .val (.int x1), .val (.int x2), .val (.int x3), .val (.int x4), .val (.int (2 : Int32)), .val (.ref sg1), .val (.ref sg5), .val (.ref sg9), .val (.ref b13), .val (.ref sg5), .unset, .unset, .unset, .unset, .unset] [(.ref sv64)]))
      refine own_fs (XS.astore X66.here hx rfl (hb hby at_126) rfl rfl (l' := #[.val (.int x0), .val (.int x1), .val (.int x2), .val (.int x3), .val (.int x4), .val (.int (2 : Int32)), .val (.ref sg1), .val (.ref sg5), .val (.ref sg9), .val (.ref b13), .val (.ref sg5), .val (.ref sv64), .unset, .unset, .unset, .unset]) rfl (Steps.refl _)) ?_
      show own_G p.tables e below _ (T66.setTop (mkF m 128 #[.val (.int x0), .val (.int x1), .val (.int x2), .val (.int x3), .val (.int x4), .val (.int (2 : Int32)), .val (.ref sg1), .val (.ref sg5), .val (.ref sg9), .val (.ref b13), .val (.ref sg5), .val (.ref sv64), .unset, .unset, .unset, .unset] []))
      refine own_fs (XS.iload X66.here hx rfl (hb hby at_128) rfl (Steps.refl _)) ?_
      show own_G p.tables e below _ (T66.setTop (mkF m 130 #[.val (.int x0), .val (.int x1), .val (.int x2), .val (.int x3), .val (.int x4), .val (.int (2 : Int32)), .val (.ref sg1), .val (.ref sg5), .val (.ref sg9), .val (.ref b13), .val (.ref sg5), .val (.ref sv64), .unset, .unset, .unset, .unset] [(.int x4)]))
      refine own_fs (XS.bipush X66.here hx rfl (hb hby at_130) (Steps.refl _)) ?_
      show own_G p.tables e below _ (T66.setTop (mkF m 132 #[.val (.int x0), .val (.int x1), .val (.int x2), .val (.int x3), .val (.int x4), .val (.int (2 : Int32)), .val (.ref sg1), .val (.ref sg5), .val (.ref sg9), .val (.ref b13), .val (.ref sg5), .val (.ref sv64), .unset, .unset, .unset, .unset] [(.int (9 : Int32)), (.int x4)]))
      refine own_fs (XS.iushr X66.here hx rfl (hb hby at_132) rfl (Steps.refl _)) ?_
      show own_G p.tables e below _ (T66.setTop (mkF m 133 #[.val (.int x0), .val (.int x1), .val (.int x2), .val (.int x3), .val (.int x4), .val (.int (2 : Int32)), .val (.ref sg1), .val (.ref sg5), .val (.ref sg9), .val (.ref b13), .val (.ref sg5), .val (.ref sv64), .unset, .unset, .unset, .unset] [(.int ((x4.toUInt32 >>> ((9 : Int32) &&& 31).toUInt32).toInt32))]))
      refine own_fs (XS.sipush X66.here hx rfl (hb hby at_133) (Steps.refl _)) ?_
      show own_G p.tables e below _ (T66.setTop (mkF m 136 #[.val (.int x0), .val (.int x1), .val (.int x2), .val (.int x3), .val (.int x4), .val (.int (2 : Int32)), .val (.ref sg1), .val (.ref sg5), .val (.ref sg9), .val (.ref b13), .val (.ref sg5), .val (.ref sv64), .unset, .unset, .unset, .unset] [(.int (255 : Int32)), (.int ((x4.toUInt32 >>> ((9 : Int32) &&& 31).toUInt32).toInt32))]))
      refine own_fs (XS.iand X66.here hx rfl (hb hby at_136) rfl (Steps.refl _)) ?_
      show own_G p.tables e below _ (T66.setTop (mkF m 137 #[.val (.int x0), .val (.int x1), .val (.int x2), .val (.int x3), .val (.int x4), .val (.int (2 : Int32)), .val (.ref sg1), .val (.ref sg5), .val (.ref sg9), .val (.ref b13), .val (.ref sg5), .val (.ref sv64), .unset, .unset, .unset, .unset] [(.int (((x4.toUInt32 >>> ((9 : Int32) &&& 31).toUInt32).toInt32) &&& (255 : Int32)))]))
      refine own_fs (XS.i2c X66.here hx rfl (hb hby at_137) rfl (Steps.refl _)) ?_
      show own_G p.tables e below _ (T66.setTop (mkF m 138 #[.val (.int x0), .val (.int x1), .val (.int x2), .val (.int x3), .val (.int x4), .val (.int (2 : Int32)), .val (.ref sg1), .val (.ref sg5), .val (.ref sg9), .val (.ref b13), .val (.ref sg5), .val (.ref sv64), .unset, .unset, .unset, .unset] [(.int ((((x4.toUInt32 >>> ((9 : Int32) &&& 31).toUInt32).toInt32) &&& (255 : Int32)).toUInt32.toUInt16.toUInt32.toInt32))]))
      have Zs71 : n0 ≤ h66.size := (Nat.le_trans (Nat.le_trans (Nat.le_trans (Nat.le_trans (Nat.le_trans (Nat.le_trans (Nat.le_trans (Nat.le_trans Z0 K3.1) K7.1) K11.1) E13.1) K15.1) K19.1) K62.1) K66.1)
      obtain ⟨_, _, ⟨T70, L70, k70, n70⟩, -, X70, ⟨Lc70, hQ70, l70, y70, z70⟩, st70⟩ := Jvm.LawKit.callS X66 hx (y := (⟨"java/lang/String", "valueOf", "(C)Ljava/lang/String;"⟩ : MethodName)) hown (mvT hZ (hw _ (List.mem_of_getElem? (i := 90) rfl))) (mvT hZ (hw _ (List.mem_of_getElem? (i := 91) rfl))) (mvT hZ (hw _ (List.mem_of_getElem? (i := 8) rfl))) (mvT hZ (hw _ (List.mem_of_getElem? (i := 92) rfl))) (by decide) (backOf (W := 0) (own_valueOfC l Z a0 hw [] ((((x4.toUInt32 >>> ((9 : Int32) &&& 31).toUInt32).toInt32) &&& (255 : Int32)).toUInt32.toUInt16.toUInt32.toInt32) cz h66 n0 Zs71 hSc hcz (Old.keep (Old.keep (Old.keep (Old.keep (Old.ext (Old.keep (Old.keep (Old.keep hOld K3 all0) K7 all0) K11 all0) E13) K15 (allS ge_b13 all0)) K19 (allS ge_b13 all0)) K62 (allS ge_b13 (allS ge_br17 all0))) K66 all0) (own_ch _).2) hZ (hw _ (List.mem_of_getElem? (i := 92) rfl)) (hw _ (List.mem_of_getElem? (i := 8) rfl)) (by decide) (by decide)) (g := (mkF m 138 #[.val (.int x0), .val (.int x1), .val (.int x2), .val (.int x3), .val (.int x4), .val (.int (2 : Int32)), .val (.ref sg1), .val (.ref sg5), .val (.ref sg9), .val (.ref b13), .val (.ref sg5), .val (.ref sv64), .unset, .unset, .unset, .unset] [(.int ((((x4.toUInt32 >>> ((9 : Int32) &&& 31).toUInt32).toInt32) &&& (255 : Int32)).toUInt32.toUInt16.toUInt32.toInt32))])) rfl (by rw [hml]; rfl) (argsL := [(.int ((((x4.toUInt32 >>> ((9 : Int32) &&& 31).toUInt32).toInt32) &&& (255 : Int32)).toUInt32.toUInt16.toUInt32.toInt32))]) (rest := []) (lenOf own_pd14 rfl) rfl (by show 2 * 0 + _ ≤ _; exact Nat.le_of_eq rfl) (hb hby at_138) (fun _ _ => ⟨rfl, e66, (by decide : 13 + 2 ≤ _), (by decide : 42 + 5 ≤ _)⟩)
      dsimp only [Pt.U, Pt.locs, Pt.cells, Pt.slots] at X70 l70 y70 z70 st70 hQ70
      subst l70 y70 z70
      obtain ⟨h70, e70⟩ : ∃ h, T70.heap = h := ⟨_, rfl⟩
      rw [e70] at hQ70
      obtain ⟨sv68, rfl, Nq70, K70, P69_0, P69_1⟩ := hQ70
      have N70 := Fr.app N66 Nq70
      have ge_sv68 : n0 ≤ sv68 := Nat.le_trans (Nat.le_trans (Nat.le_trans (Nat.le_trans (Nat.le_trans (Nat.le_trans (Nat.le_trans (Nat.le_trans (Nat.le_trans Z0 K3.1) K7.1) K11.1) E13.1) K15.1) K19.1) K62.1) K66.1) P69_1
      have gz_sv68 : h0.size ≤ sv68 := Nat.le_trans (Nat.le_trans (Nat.le_trans (Nat.le_trans (Nat.le_trans (Nat.le_trans (Nat.le_trans (Nat.le_trans (Nat.le_trans (Nat.le_refl _) K3.1) K7.1) K11.1) E13.1) K15.1) K19.1) K62.1) K66.1) P69_1
      refine own_fs (st70 _ (Steps.refl _)) ?_
      show own_G p.tables e below _ (T70.setTop (mkF m 141 #[.val (.int x0), .val (.int x1), .val (.int x2), .val (.int x3), .val (.int x4), .val (.int (2 : Int32)), .val (.ref sg1), .val (.ref sg5), .val (.ref sg9), .val (.ref b13), .val (.ref sg5), .val (.ref sv64), .unset, .unset, .unset, .unset] [(.ref sv68)]))
      refine own_fs (XS.astore X70.here hx rfl (hb hby at_141) rfl rfl (l' := #[.val (.int x0), .val (.int x1), .val (.int x2), .val (.int x3), .val (.int x4), .val (.int (2 : Int32)), .val (.ref sg1), .val (.ref sg5), .val (.ref sg9), .val (.ref b13), .val (.ref sg5), .val (.ref sv64), .val (.ref sv68), .unset, .unset, .unset]) rfl (Steps.refl _)) ?_
      show own_G p.tables e below _ (T70.setTop (mkF m 143 #[.val (.int x0), .val (.int x1), .val (.int x2), .val (.int x3), .val (.int x4), .val (.int (2 : Int32)), .val (.ref sg1), .val (.ref sg5), .val (.ref sg9), .val (.ref b13), .val (.ref sg5), .val (.ref sv64), .val (.ref sv68), .unset, .unset, .unset] []))
      refine own_fs (XS.iload X70.here hx rfl (hb hby at_143) rfl (Steps.refl _)) ?_
      show own_G p.tables e below _ (T70.setTop (mkF m 145 #[.val (.int x0), .val (.int x1), .val (.int x2), .val (.int x3), .val (.int x4), .val (.int (2 : Int32)), .val (.ref sg1), .val (.ref sg5), .val (.ref sg9), .val (.ref b13), .val (.ref sg5), .val (.ref sv64), .val (.ref sv68), .unset, .unset, .unset] [(.int x4)]))
      refine own_fs (XS.bipush X70.here hx rfl (hb hby at_145) (Steps.refl _)) ?_
      show own_G p.tables e below _ (T70.setTop (mkF m 147 #[.val (.int x0), .val (.int x1), .val (.int x2), .val (.int x3), .val (.int x4), .val (.int (2 : Int32)), .val (.ref sg1), .val (.ref sg5), .val (.ref sg9), .val (.ref b13), .val (.ref sg5), .val (.ref sv64), .val (.ref sv68), .unset, .unset, .unset] [(.int (17 : Int32)), (.int x4)]))
      refine own_fs (XS.iushr X70.here hx rfl (hb hby at_147) rfl (Steps.refl _)) ?_
      show own_G p.tables e below _ (T70.setTop (mkF m 148 #[.val (.int x0), .val (.int x1), .val (.int x2), .val (.int x3), .val (.int x4), .val (.int (2 : Int32)), .val (.ref sg1), .val (.ref sg5), .val (.ref sg9), .val (.ref b13), .val (.ref sg5), .val (.ref sv64), .val (.ref sv68), .unset, .unset, .unset] [(.int ((x4.toUInt32 >>> ((17 : Int32) &&& 31).toUInt32).toInt32))]))
      refine own_fs (XS.sipush X70.here hx rfl (hb hby at_148) (Steps.refl _)) ?_
      show own_G p.tables e below _ (T70.setTop (mkF m 151 #[.val (.int x0), .val (.int x1), .val (.int x2), .val (.int x3), .val (.int x4), .val (.int (2 : Int32)), .val (.ref sg1), .val (.ref sg5), .val (.ref sg9), .val (.ref b13), .val (.ref sg5), .val (.ref sv64), .val (.ref sv68), .unset, .unset, .unset] [(.int (255 : Int32)), (.int ((x4.toUInt32 >>> ((17 : Int32) &&& 31).toUInt32).toInt32))]))
      refine own_fs (XS.iand X70.here hx rfl (hb hby at_151) rfl (Steps.refl _)) ?_
      show own_G p.tables e below _ (T70.setTop (mkF m 152 #[.val (.int x0), .val (.int x1), .val (.int x2), .val (.int x3), .val (.int x4), .val (.int (2 : Int32)), .val (.ref sg1), .val (.ref sg5), .val (.ref sg9), .val (.ref b13), .val (.ref sg5), .val (.ref sv64), .val (.ref sv68), .unset, .unset, .unset] [(.int (((x4.toUInt32 >>> ((17 : Int32) &&& 31).toUInt32).toInt32) &&& (255 : Int32)))]))
      refine own_fs (XS.i2c X70.here hx rfl (hb hby at_152) rfl (Steps.refl _)) ?_
      show own_G p.tables e below _ (T70.setTop (mkF m 153 #[.val (.int x0), .val (.int x1), .val (.int x2), .val (.int x3), .val (.int x4), .val (.int (2 : Int32)), .val (.ref sg1), .val (.ref sg5), .val (.ref sg9), .val (.ref b13), .val (.ref sg5), .val (.ref sv64), .val (.ref sv68), .unset, .unset, .unset] [(.int ((((x4.toUInt32 >>> ((17 : Int32) &&& 31).toUInt32).toInt32) &&& (255 : Int32)).toUInt32.toUInt16.toUInt32.toInt32))]))
      have Zs75 : n0 ≤ h70.size := (Nat.le_trans (Nat.le_trans (Nat.le_trans (Nat.le_trans (Nat.le_trans (Nat.le_trans (Nat.le_trans (Nat.le_trans (Nat.le_trans Z0 K3.1) K7.1) K11.1) E13.1) K15.1) K19.1) K62.1) K66.1) K70.1)
      obtain ⟨_, _, ⟨T74, L74, k74, n74⟩, -, X74, ⟨Lc74, hQ74, l74, y74, z74⟩, st74⟩ := Jvm.LawKit.callS X70 hx (y := (⟨"java/lang/String", "valueOf", "(C)Ljava/lang/String;"⟩ : MethodName)) hown (mvT hZ (hw _ (List.mem_of_getElem? (i := 90) rfl))) (mvT hZ (hw _ (List.mem_of_getElem? (i := 91) rfl))) (mvT hZ (hw _ (List.mem_of_getElem? (i := 8) rfl))) (mvT hZ (hw _ (List.mem_of_getElem? (i := 92) rfl))) (by decide) (backOf (W := 0) (own_valueOfC l Z a0 hw [] ((((x4.toUInt32 >>> ((17 : Int32) &&& 31).toUInt32).toInt32) &&& (255 : Int32)).toUInt32.toUInt16.toUInt32.toInt32) cz h70 n0 Zs75 hSc hcz (Old.keep (Old.keep (Old.keep (Old.keep (Old.keep (Old.ext (Old.keep (Old.keep (Old.keep hOld K3 all0) K7 all0) K11 all0) E13) K15 (allS ge_b13 all0)) K19 (allS ge_b13 all0)) K62 (allS ge_b13 (allS ge_br17 all0))) K66 all0) K70 all0) (own_ch _).2) hZ (hw _ (List.mem_of_getElem? (i := 92) rfl)) (hw _ (List.mem_of_getElem? (i := 8) rfl)) (by decide) (by decide)) (g := (mkF m 153 #[.val (.int x0), .val (.int x1), .val (.int x2), .val (.int x3), .val (.int x4), .val (.int (2 : Int32)), .val (.ref sg1), .val (.ref sg5), .val (.ref sg9), .val (.ref b13), .val (.ref sg5), .val (.ref sv64), .val (.ref sv68), .unset, .unset, .unset] [(.int ((((x4.toUInt32 >>> ((17 : Int32) &&& 31).toUInt32).toInt32) &&& (255 : Int32)).toUInt32.toUInt16.toUInt32.toInt32))])) rfl (by rw [hml]; rfl) (argsL := [(.int ((((x4.toUInt32 >>> ((17 : Int32) &&& 31).toUInt32).toInt32) &&& (255 : Int32)).toUInt32.toUInt16.toUInt32.toInt32))]) (rest := []) (lenOf own_pd14 rfl) rfl (by show 2 * 0 + _ ≤ _; exact Nat.le_of_eq rfl) (hb hby at_153) (fun _ _ => ⟨rfl, e70, (by decide : 15 + 2 ≤ _), (by decide : 47 + 5 ≤ _)⟩)
      dsimp only [Pt.U, Pt.locs, Pt.cells, Pt.slots] at X74 l74 y74 z74 st74 hQ74
      subst l74 y74 z74
      obtain ⟨h74, e74⟩ : ∃ h, T74.heap = h := ⟨_, rfl⟩
      rw [e74] at hQ74
      obtain ⟨sv72, rfl, Nq74, K74, P73_0, P73_1⟩ := hQ74
      have N74 := Fr.app N70 Nq74
      have ge_sv72 : n0 ≤ sv72 := Nat.le_trans (Nat.le_trans (Nat.le_trans (Nat.le_trans (Nat.le_trans (Nat.le_trans (Nat.le_trans (Nat.le_trans (Nat.le_trans (Nat.le_trans Z0 K3.1) K7.1) K11.1) E13.1) K15.1) K19.1) K62.1) K66.1) K70.1) P73_1
      have gz_sv72 : h0.size ≤ sv72 := Nat.le_trans (Nat.le_trans (Nat.le_trans (Nat.le_trans (Nat.le_trans (Nat.le_trans (Nat.le_trans (Nat.le_trans (Nat.le_trans (Nat.le_trans (Nat.le_refl _) K3.1) K7.1) K11.1) E13.1) K15.1) K19.1) K62.1) K66.1) K70.1) P73_1
      refine own_fs (st74 _ (Steps.refl _)) ?_
      show own_G p.tables e below _ (T74.setTop (mkF m 156 #[.val (.int x0), .val (.int x1), .val (.int x2), .val (.int x3), .val (.int x4), .val (.int (2 : Int32)), .val (.ref sg1), .val (.ref sg5), .val (.ref sg9), .val (.ref b13), .val (.ref sg5), .val (.ref sv64), .val (.ref sv68), .unset, .unset, .unset] [(.ref sv72)]))
      refine own_fs (XS.astore X74.here hx rfl (hb hby at_156) rfl rfl (l' := #[.val (.int x0), .val (.int x1), .val (.int x2), .val (.int x3), .val (.int x4), .val (.int (2 : Int32)), .val (.ref sg1), .val (.ref sg5), .val (.ref sg9), .val (.ref b13), .val (.ref sg5), .val (.ref sv64), .val (.ref sv68), .val (.ref sv72), .unset, .unset]) rfl (Steps.refl _)) ?_
      show own_G p.tables e below _ (T74.setTop (mkF m 158 #[.val (.int x0), .val (.int x1), .val (.int x2), .val (.int x3), .val (.int x4), .val (.int (2 : Int32)), .val (.ref sg1), .val (.ref sg5), .val (.ref sg9), .val (.ref b13), .val (.ref sg5), .val (.ref sv64), .val (.ref sv68), .val (.ref sv72), .unset, .unset] []))
      obtain ⟨T76, h76, X76, e76, E76, A76, D76, -, st76⟩ := newO X74 hx hZ hown (hw _ (List.mem_of_getElem? (i := 104) rfl)) (hw _ (List.mem_of_getElem? (i := 105) rfl)) (hw _ (List.mem_of_getElem? (i := 106) rfl)) e74 (g := (mkF m 158 #[.val (.int x0), .val (.int x1), .val (.int x2), .val (.int x3), .val (.int x4), .val (.int (2 : Int32)), .val (.ref sg1), .val (.ref sg5), .val (.ref sg9), .val (.ref b13), .val (.ref sg5), .val (.ref sv64), .val (.ref sv68), .val (.ref sv72), .unset, .unset] [])) rfl (hb hby at_158) (by decide) (by decide)
      obtain ⟨b76, g76⟩ : ∃ z, z = h74.size := ⟨_, rfl⟩
      rw [← g76] at A76 D76 st76
      have ge_b76 : n0 ≤ b76 := Nat.le_trans (Nat.le_trans (Nat.le_trans (Nat.le_trans (Nat.le_trans (Nat.le_trans (Nat.le_trans (Nat.le_trans (Nat.le_trans (Nat.le_trans (Nat.le_trans Z0 K3.1) K7.1) K11.1) E13.1) K15.1) K19.1) K62.1) K66.1) K70.1) K74.1) (Nat.le_of_eq g76.symm)
      have gz_b76 : h0.size ≤ b76 := Nat.le_trans (Nat.le_trans (Nat.le_trans (Nat.le_trans (Nat.le_trans (Nat.le_trans (Nat.le_trans (Nat.le_trans (Nat.le_trans (Nat.le_trans (Nat.le_trans (Nat.le_refl _) K3.1) K7.1) K11.1) E13.1) K15.1) K19.1) K62.1) K66.1) K70.1) K74.1) (Nat.le_of_eq g76.symm)
      have F_version_b76 : Fld Z h76 b76 "com/example/corbelpath/corbelpath/Deployment$Target" "version" "Ljava/lang/String;" .null := D76 (Or.inr (hw _ (List.mem_of_getElem? (i := 117) rfl))) (ty := (.object "java/lang/String")) (by decide)
      have F_locale_b76 : Fld Z h76 b76 "com/example/corbelpath/corbelpath/Deployment$Target" "locale" "Ljava/lang/String;" .null := D76 (Or.inr (hw _ (List.mem_of_getElem? (i := 119) rfl))) (ty := (.object "java/lang/String")) (by decide)
      have F_library_b76 : Fld Z h76 b76 "com/example/corbelpath/corbelpath/Deployment$Target" "library" "Ljava/lang/String;" .null := D76 (Or.inr (hw _ (List.mem_of_getElem? (i := 121) rfl))) (ty := (.object "java/lang/String")) (by decide)
      have F_path_b76 : Fld Z h76 b76 "com/example/corbelpath/corbelpath/Deployment$Target" "path" "Ljava/util/List;" .null := D76 (Or.inr (hw _ (List.mem_of_getElem? (i := 123) rfl))) (ty := (.object "java/util/List")) (by decide)
      refine own_fs (st76 _ (Steps.refl _)) ?_
      show own_G p.tables e below _ (T76.setTop (mkF m 161 #[.val (.int x0), .val (.int x1), .val (.int x2), .val (.int x3), .val (.int x4), .val (.int (2 : Int32)), .val (.ref sg1), .val (.ref sg5), .val (.ref sg9), .val (.ref b13), .val (.ref sg5), .val (.ref sv64), .val (.ref sv68), .val (.ref sv72), .unset, .unset] [(.ref b76)]))
      refine own_fs (XS.dup X76.here hx rfl (hb hby at_161) rfl rfl (Steps.refl _)) ?_
      show own_G p.tables e below _ (T76.setTop (mkF m 162 #[.val (.int x0), .val (.int x1), .val (.int x2), .val (.int x3), .val (.int x4), .val (.int (2 : Int32)), .val (.ref sg1), .val (.ref sg5), .val (.ref sg9), .val (.ref b13), .val (.ref sg5), .val (.ref sv64), .val (.ref sv68), .val (.ref sv72), .unset, .unset] [(.ref b76), (.ref b76)]))
      refine own_fs (XS.aload X76.here hx rfl (hb hby at_162) rfl rfl (Steps.refl _)) ?_
      show own_G p.tables e below _ (T76.setTop (mkF m 164 #[.val (.int x0), .val (.int x1), .val (.int x2), .val (.int x3), .val (.int x4), .val (.int (2 : Int32)), .val (.ref sg1), .val (.ref sg5), .val (.ref sg9), .val (.ref b13), .val (.ref sg5), .val (.ref sv64), .val (.ref sv68), .val (.ref sv72), .unset, .unset] [(.ref sv68), (.ref b76), (.ref b76)]))
      refine own_fs (XS.aload X76.here hx rfl (hb hby at_164) rfl rfl (Steps.refl _)) ?_
      show own_G p.tables e below _ (T76.setTop (mkF m 166 #[.val (.int x0), .val (.int x1), .val (.int x2), .val (.int x3), .val (.int x4), .val (.int (2 : Int32)), .val (.ref sg1), .val (.ref sg5), .val (.ref sg9), .val (.ref b13), .val (.ref sg5), .val (.ref sv64), .val (.ref sv68), .val (.ref sv72), .unset, .unset] [(.ref sv64), (.ref sv68), (.ref b76), (.ref b76)]))
      refine own_fs (XS.aload X76.here hx rfl (hb hby at_166) rfl rfl (Steps.refl _)) ?_
      show own_G p.tables e below _ (T76.setTop (mkF m 168 #[.val (.int x0), .val (.int x1), .val (.int x2), .val (.int x3), .val (.int x4), .val (.int (2 : Int32)), .val (.ref sg1), .val (.ref sg5), .val (.ref sg9), .val (.ref b13), .val (.ref sg5), .val (.ref sv64), .val (.ref sv68), .val (.ref sv72), .unset, .unset] [(.ref sv72), (.ref sv64), (.ref sv68), (.ref b76), (.ref b76)]))
      refine own_fs (XS.aload X76.here hx rfl (hb hby at_168) rfl rfl (Steps.refl _)) ?_
      show own_G p.tables e below _ (T76.setTop (mkF m 170 #[.val (.int x0), .val (.int x1), .val (.int x2), .val (.int x3), .val (.int x4), .val (.int (2 : Int32)), .val (.ref sg1), .val (.ref sg5), .val (.ref sg9), .val (.ref b13), .val (.ref sg5), .val (.ref sv64), .val (.ref sv68), .val (.ref sv72), .unset, .unset] [(.ref b13), (.ref sv72), (.ref sv64), (.ref sv68), (.ref b76), (.ref b76)]))
      have Zs79 : n0 ≤ h76.size := (Nat.le_trans (Nat.le_trans (Nat.le_trans (Nat.le_trans (Nat.le_trans (Nat.le_trans (Nat.le_trans (Nat.le_trans (Nat.le_trans (Nat.le_trans (Nat.le_trans Z0 K3.1) K7.1) K11.1) E13.1) K15.1) K19.1) K62.1) K66.1) K70.1) K74.1) E76.1)
      obtain ⟨_, _, ⟨T78, L78, k78, n78⟩, -, X78, ⟨Lc78, hQ78, l78, y78, z78⟩, st78⟩ := X76.specialBack hx (y := (⟨"com/example/corbelpath/corbelpath/Deployment$Target", "<init>", "(Ljava/lang/String;Ljava/lang/String;Ljava/lang/String;Ljava/util/List;)V"⟩ : MethodName)) rfl hown (mvT hZ (hw _ (List.mem_of_getElem? (i := 107) rfl))) (mvT hZ (hw _ (List.mem_of_getElem? (i := 108) rfl))) (mvT hZ (hw _ (List.mem_of_getElem? (i := 109) rfl))) (by decide) (backOf (W := 1) (own_i_Target0 l Z a0 hw [] b76 sv68 sv64 sv72 b13 (.null) (.null) (.null) (.null) h76 n0 Zs79 A76 F_version_b76 F_locale_b76 F_library_b76 F_path_b76 ge_b76) hZ (hw _ (List.mem_of_getElem? (i := 109) rfl)) (hw _ (List.mem_of_getElem? (i := 106) rfl)) (by decide) (by decide)) (g := (mkF m 170 #[.val (.int x0), .val (.int x1), .val (.int x2), .val (.int x3), .val (.int x4), .val (.int (2 : Int32)), .val (.ref sg1), .val (.ref sg5), .val (.ref sg9), .val (.ref b13), .val (.ref sg5), .val (.ref sv64), .val (.ref sv68), .val (.ref sv72), .unset, .unset] [(.ref b13), (.ref sv72), (.ref sv64), (.ref sv68), (.ref b76), (.ref b76)])) rfl (by rw [hml]; rfl) (Steps.refl _) (a := b76) (argsL := [(.ref sv68), (.ref sv64), (.ref sv72), (.ref b13)]) (rest := [(.ref b76)]) (lenOf own_pd15 rfl) rfl (by show 2 * 0 + _ ≤ _; exact Nat.le_of_eq rfl) (hb hby at_170) (fun _ _ => ⟨rfl, e76, (by decide : 18 + 0 ≤ _), (by decide : 56 + 0 ≤ _)⟩)
      dsimp only [Pt.U, Pt.locs, Pt.cells, Pt.slots] at X78 l78 y78 z78 st78 hQ78
      subst l78 y78 z78
      obtain ⟨h78, e78⟩ : ∃ h, T78.heap = h := ⟨_, rfl⟩
      rw [e78] at hQ78
      obtain ⟨rfl, Nq78, K78, P77_0⟩ := hQ78
      have N78 := Fr.app N74 Nq78
      refine own_fs st78 ?_
      show own_G p.tables e below _ (T78.setTop (mkF m 173 #[.val (.int x0), .val (.int x1), .val (.int x2), .val (.int x3), .val (.int x4), .val (.int (2 : Int32)), .val (.ref sg1), .val (.ref sg5), .val (.ref sg9), .val (.ref b13), .val (.ref sg5), .val (.ref sv64), .val (.ref sv68), .val (.ref sv72), .unset, .unset] [(.ref b76)]))
      refine own_fs (XS.astore X78.here hx rfl (hb hby at_173) rfl rfl (l' := #[.val (.int x0), .val (.int x1), .val (.int x2), .val (.int x3), .val (.int x4), .val (.int (2 : Int32)), .val (.ref sg1), .val (.ref sg5), .val (.ref sg9), .val (.ref b13), .val (.ref sg5), .val (.ref sv64), .val (.ref sv68), .val (.ref sv72), .val (.ref b76), .unset]) rfl (Steps.refl _)) ?_
      show own_G p.tables e below _ (T78.setTop (mkF m 175 #[.val (.int x0), .val (.int x1), .val (.int x2), .val (.int x3), .val (.int x4), .val (.int (2 : Int32)), .val (.ref sg1), .val (.ref sg5), .val (.ref sg9), .val (.ref b13), .val (.ref sg5), .val (.ref sv64), .val (.ref sv68), .val (.ref sv72), .val (.ref b76), .unset] []))
      refine own_fs (XS.aload X78.here hx rfl (hb hby at_175) rfl rfl (Steps.refl _)) ?_
      show own_G p.tables e below _ (T78.setTop (mkF m 177 #[.val (.int x0), .val (.int x1), .val (.int x2), .val (.int x3), .val (.int x4), .val (.int (2 : Int32)), .val (.ref sg1), .val (.ref sg5), .val (.ref sg9), .val (.ref b13), .val (.ref sg5), .val (.ref sv64), .val (.ref sv68), .val (.ref sv72), .val (.ref b76), .unset] [(.ref b76)]))
      have Zs82 : n0 ≤ h78.size := (Nat.le_trans (Nat.le_trans (Nat.le_trans (Nat.le_trans (Nat.le_trans (Nat.le_trans (Nat.le_trans (Nat.le_trans (Nat.le_trans (Nat.le_trans (Nat.le_trans (Nat.le_trans Z0 K3.1) K7.1) K11.1) E13.1) K15.1) K19.1) K62.1) K66.1) K70.1) K74.1) E76.1) K78.1)
      obtain ⟨cq81, kq81, q81a, q81b, q81c⟩ := isOf hZ e78 (A76.keep K78)
      obtain ⟨_, _, ⟨T81, L81, k81, n81⟩, -, X81, ⟨Lc81, hQ81, l81, y81, z81⟩, st81⟩ := X78.virtualBack hx (y := (⟨"com/example/corbelpath/corbelpath/Deployment$Target", "fileName", "()Ljava/lang/String;"⟩ : MethodName)) (z := (⟨"com/example/corbelpath/corbelpath/Deployment$Target", "fileName", "()Ljava/lang/String;"⟩ : MethodName)) hown (mvT hZ (hw _ (List.mem_of_getElem? (i := 124) rfl))) (mvT hZ (hw _ (List.mem_of_getElem? (i := 125) rfl))) (notFace_of_selects (args := #[]) (mvT hZ (hw _ (List.mem_of_getElem? (i := 127) rfl)))) (mvT hZ (hw _ (List.mem_of_getElem? (i := 127) rfl))) (mvT hZ (hw _ (List.mem_of_getElem? (i := 126) rfl))) (by decide) (backOf (W := 0) (own_fname2 l Z a0 hw [] b76 b13 sg1 sg5 br17 kr17 h78 n0 Zs82 P77_0 ((Exa.ext E76 ((((((A13.keep K15).keep K19).keep K62).keep K66).keep K70).keep K74)).keep K78) ((Fld.ext E76 (((P61_2.keep K66 nin0).keep K70 nin0).keep K74 nin0)).keep K78 (ninS (Nat.ne_of_lt (Nat.lt_of_lt_of_le (Exa.lt ((((((A13.keep K15).keep K19).keep K62).keep K66).keep K70).keep K74)) (Nat.le_of_eq g76.symm))) nin0)) ((Fld.ext E76 (((P61_1.keep K66 nin0).keep K70 nin0).keep K74 nin0)).keep K78 (ninS (Nat.ne_of_lt (Nat.lt_of_lt_of_le (Exa.lt ((((((A13.keep K15).keep K19).keep K62).keep K66).keep K70).keep K74)) (Nat.le_of_eq g76.symm))) nin0)) (((((P61_3.keep K66 nin0).keep K70 nin0).keep K74 nin0).ext E76).keep K78 (ninS (Nat.ne_of_lt (Nat.lt_of_lt_of_le (Arv.lt (((P61_3.keep K66 nin0).keep K70 nin0).keep K74 nin0)) (Nat.le_of_eq g76.symm))) nin0)) ((Exa.ext E76 (((((((Exa.ext E13 (P6_0.keep K11)).keep K15).keep K19).keep K62).keep K66).keep K70).keep K74)).keep K78)) hZ (hw _ (List.mem_of_getElem? (i := 128) rfl)) (hw _ (List.mem_of_getElem? (i := 106) rfl)) (by decide) (by decide)) q81a q81c (g := (mkF m 177 #[.val (.int x0), .val (.int x1), .val (.int x2), .val (.int x3), .val (.int x4), .val (.int (2 : Int32)), .val (.ref sg1), .val (.ref sg5), .val (.ref sg9), .val (.ref b13), .val (.ref sg5), .val (.ref sv64), .val (.ref sv68), .val (.ref sv72), .val (.ref b76), .unset] [(.ref b76)])) rfl (by rw [hml]; rfl) (Steps.refl _) (argsL := []) (rest := []) (lenOf own_pd16 rfl) rfl (by show 2 * 0 + _ ≤ _; exact Nat.le_of_eq rfl) (hb hby at_177) (fun _ _ => ⟨rfl, e78, (by decide : 18 + 0 ≤ _), (by decide : 56 + 0 ≤ _)⟩)
      dsimp only [Pt.U, Pt.locs, Pt.cells, Pt.slots] at X81 l81 y81 z81 st81 hQ81
      subst l81 y81 z81
      obtain ⟨rfl, Nq81, e81⟩ := hQ81
      have N81 := Fr.app N78 Nq81
      refine own_fs st81 ?_
      show own_G p.tables e below _ (T81.setTop (mkF m 180 #[.val (.int x0), .val (.int x1), .val (.int x2), .val (.int x3), .val (.int x4), .val (.int (2 : Int32)), .val (.ref sg1), .val (.ref sg5), .val (.ref sg9), .val (.ref b13), .val (.ref sg5), .val (.ref sv64), .val (.ref sv68), .val (.ref sv72), .val (.ref b76), .unset] [(.ref sg5)]))
      refine own_fs (XS.astore X81.here hx rfl (hb hby at_180) rfl rfl (l' := #[.val (.int x0), .val (.int x1), .val (.int x2), .val (.int x3), .val (.int x4), .val (.int (2 : Int32)), .val (.ref sg1), .val (.ref sg5), .val (.ref sg9), .val (.ref b13), .val (.ref sg5), .val (.ref sv64), .val (.ref sv68), .val (.ref sv72), .val (.ref b76), .val (.ref sg5)]) rfl (Steps.refl _)) ?_
      show own_G p.tables e below _ (T81.setTop (mkF m 182 #[.val (.int x0), .val (.int x1), .val (.int x2), .val (.int x3), .val (.int x4), .val (.int (2 : Int32)), .val (.ref sg1), .val (.ref sg5), .val (.ref sg9), .val (.ref b13), .val (.ref sg5), .val (.ref sv64), .val (.ref sv68), .val (.ref sv72), .val (.ref b76), .val (.ref sg5)] []))
      refine own_fs (XS.aload X81.here hx rfl (hb hby at_182) rfl rfl (Steps.refl _)) ?_
      show own_G p.tables e below _ (T81.setTop (mkF m 184 #[.val (.int x0), .val (.int x1), .val (.int x2), .val (.int x3), .val (.int x4), .val (.int (2 : Int32)), .val (.ref sg1), .val (.ref sg5), .val (.ref sg9), .val (.ref b13), .val (.ref sg5), .val (.ref sv64), .val (.ref sv68), .val (.ref sv72), .val (.ref b76), .val (.ref sg5)] [(.ref sg5)]))
      refine own_fs (XS.ifnullNo X81.here hx rfl (hb hby at_184) rfl (Steps.refl _)) ?_
      show own_G p.tables e below _ (T81.setTop (mkF m 187 #[.val (.int x0), .val (.int x1), .val (.int x2), .val (.int x3), .val (.int x4), .val (.int (2 : Int32)), .val (.ref sg1), .val (.ref sg5), .val (.ref sg9), .val (.ref b13), .val (.ref sg5), .val (.ref sv64), .val (.ref sv68), .val (.ref sv72), .val (.ref b76), .val (.ref sg5)] []))
      refine own_fs (XS.aload X81.here hx rfl (hb hby at_187) rfl rfl (Steps.refl _)) ?_
      show own_G p.tables e below _ (T81.setTop (mkF m 189 #[.val (.int x0), .val (.int x1), .val (.int x2), .val (.int x3), .val (.int x4), .val (.int (2 : Int32)), .val (.ref sg1), .val (.ref sg5), .val (.ref sg9), .val (.ref b13), .val (.ref sg5), .val (.ref sv64), .val (.ref sv68), .val (.ref sv72), .val (.ref b76), .val (.ref sg5)] [(.ref sg5)]))
      refine own_fs (XS.aload X81.here hx rfl (hb hby at_189) rfl rfl (Steps.refl _)) ?_
      show own_G p.tables e below _ (T81.setTop (mkF m 191 #[.val (.int x0), .val (.int x1), .val (.int x2), .val (.int x3), .val (.int x4), .val (.int (2 : Int32)), .val (.ref sg1), .val (.ref sg5), .val (.ref sg9), .val (.ref b13), .val (.ref sg5), .val (.ref sv64), .val (.ref sv68), .val (.ref sv72), .val (.ref b76), .val (.ref sg5)] [(.ref sg5), (.ref sg5)]))
      have Zs85 : n0 ≤ h78.size := (Nat.le_trans (Nat.le_trans (Nat.le_trans (Nat.le_trans (Nat.le_trans (Nat.le_trans (Nat.le_trans (Nat.le_trans (Nat.le_trans (Nat.le_trans (Nat.le_trans (Nat.le_trans Z0 K3.1) K7.1) K11.1) E13.1) K15.1) K19.1) K62.1) K66.1) K70.1) K74.1) E76.1) K78.1)
      obtain ⟨cq84, kq84, q84a, q84b, q84c⟩ := isOf hZ e81 ((Exa.ext E76 (((((((Exa.ext E13 (P6_0.keep K11)).keep K15).keep K19).keep K62).keep K66).keep K70).keep K74)).keep K78)
      obtain ⟨_, _, ⟨T84, L84, k84, n84⟩, -, X84, ⟨Lc84, hQ84, l84, y84, z84⟩, st84⟩ := X81.virtualBack hx (y := (⟨"java/lang/String", "equals", "(Ljava/lang/Object;)Z"⟩ : MethodName)) (z := (⟨"java/lang/String", "equals", "(Ljava/lang/Object;)Z"⟩ : MethodName)) hown (mvT hZ (hw _ (List.mem_of_getElem? (i := 160) rfl))) (mvT hZ (hw _ (List.mem_of_getElem? (i := 161) rfl))) (notFace_of_selects (args := #[]) (mvT hZ (hw _ (List.mem_of_getElem? (i := 163) rfl)))) (mvT hZ (hw _ (List.mem_of_getElem? (i := 163) rfl))) (mvT hZ (hw _ (List.mem_of_getElem? (i := 162) rfl))) (by decide) (backOf (W := 0) (own_streq l Z a0 hw [] sg5 h78 n0 Zs85 ) hZ (hw _ (List.mem_of_getElem? (i := 164) rfl)) (hw _ (List.mem_of_getElem? (i := 8) rfl)) (by decide) (by decide)) q84a q84c (g := (mkF m 191 #[.val (.int x0), .val (.int x1), .val (.int x2), .val (.int x3), .val (.int x4), .val (.int (2 : Int32)), .val (.ref sg1), .val (.ref sg5), .val (.ref sg9), .val (.ref b13), .val (.ref sg5), .val (.ref sv64), .val (.ref sv68), .val (.ref sv72), .val (.ref b76), .val (.ref sg5)] [(.ref sg5), (.ref sg5)])) rfl (by rw [hml]; rfl) (Steps.refl _) (argsL := [(.ref sg5)]) (rest := []) (lenOf own_pd13 rfl) rfl (by show 2 * 0 + _ ≤ _; exact Nat.le_of_eq rfl) (hb hby at_191) (fun _ _ => ⟨rfl, e81, (by decide : 18 + 0 ≤ _), (by decide : 56 + 0 ≤ _)⟩)
      dsimp only [Pt.U, Pt.locs, Pt.cells, Pt.slots] at X84 l84 y84 z84 st84 hQ84
      subst l84 y84 z84
      obtain ⟨rfl, Nq84, e84⟩ := hQ84
      have N84 := Fr.app N81 Nq84
      refine own_fs st84 ?_
      show own_G p.tables e below _ (T84.setTop (mkF m 194 #[.val (.int x0), .val (.int x1), .val (.int x2), .val (.int x3), .val (.int x4), .val (.int (2 : Int32)), .val (.ref sg1), .val (.ref sg5), .val (.ref sg9), .val (.ref b13), .val (.ref sg5), .val (.ref sv64), .val (.ref sv68), .val (.ref sv72), .val (.ref b76), .val (.ref sg5)] [(.int (1 : Int32))]))
      refine own_fs (XS.ifNo X84.here hx rfl (hb hby at_194) rfl (XT.i0_eq_f (by decide : ¬ ((1 : Int32) = (0 : Int32)))) (Steps.refl _)) ?_
      show own_G p.tables e below _ (T84.setTop (mkF m 197 #[.val (.int x0), .val (.int x1), .val (.int x2), .val (.int x3), .val (.int x4), .val (.int (2 : Int32)), .val (.ref sg1), .val (.ref sg5), .val (.ref sg9), .val (.ref b13), .val (.ref sg5), .val (.ref sv64), .val (.ref sv68), .val (.ref sv72), .val (.ref b76), .val (.ref sg5)] []))
      refine own_fs (XS.iconst X84.here hx rfl (hb hby at_197) (Steps.refl _)) ?_
      show own_G p.tables e below _ (T84.setTop (mkF m 198 #[.val (.int x0), .val (.int x1), .val (.int x2), .val (.int x3), .val (.int x4), .val (.int (2 : Int32)), .val (.ref sg1), .val (.ref sg5), .val (.ref sg9), .val (.ref b13), .val (.ref sg5), .val (.ref sv64), .val (.ref sv68), .val (.ref sv72), .val (.ref b76), .val (.ref sg5)] [(.int (1 : Int32))]))
      refine own_fs (XS.goto X84.here hx rfl (pc0 := 198) (pc' := 202) rfl (hb hby at_198) (by decide) (by decide) (Steps.refl _)) ?_
      show own_G p.tables e below _ (T84.setTop (mkF m 202 #[.val (.int x0), .val (.int x1), .val (.int x2), .val (.int x3), .val (.int x4), .val (.int (2 : Int32)), .val (.ref sg1), .val (.ref sg5), .val (.ref sg9), .val (.ref b13), .val (.ref sg5), .val (.ref sv64), .val (.ref sv68), .val (.ref sv72), .val (.ref b76), .val (.ref sg5)] [(.int (1 : Int32))]))
      exact own_retN X84 hx (t := .boolean) Bd.returns hlk (by simp) (hb hby at_202) (by decide) (by decide) e84 ⟨rfl, N84⟩
    · refine own_fs (XS.ifNo X62.here hx rfl (hb hby at_107) rfl (XT.i0_eq_f hc107) (Steps.refl _)) ?_
      show own_G p.tables e below _ (T62.setTop (mkF m 110 #[.val (.int x0), .val (.int x1), .val (.int x2), .val (.int x3), .val (.int x4), .val (.int (2 : Int32)), .val (.ref sg1), .val (.ref sg5), .val (.ref sg9), .val (.ref b13), .val (.ref sg5), .unset, .unset, .unset, .unset, .unset] []))
      refine own_fs (XS.aconstNull X62.here hx rfl (hb hby at_110) (Steps.refl _)) ?_
      show own_G p.tables e below _ (T62.setTop (mkF m 111 #[.val (.int x0), .val (.int x1), .val (.int x2), .val (.int x3), .val (.int x4), .val (.int (2 : Int32)), .val (.ref sg1), .val (.ref sg5), .val (.ref sg9), .val (.ref b13), .val (.ref sg5), .unset, .unset, .unset, .unset, .unset] [.null]))
      refine own_fs (XS.goto X62.here hx rfl (pc0 := 111) (pc' := 126) rfl (hb hby at_111) (by decide) (by decide) (Steps.refl _)) ?_
      show own_G p.tables e below _ (T62.setTop (mkF m 126 #[.val (.int x0), .val (.int x1), .val (.int x2), .val (.int x3), .val (.int x4), .val (.int (2 : Int32)), .val (.ref sg1), .val (.ref sg5), .val (.ref sg9), .val (.ref b13), .val (.ref sg5), .unset, .unset, .unset, .unset, .unset] [.null]))
      refine own_fs (XS.astore X62.here hx rfl (hb hby at_126) rfl rfl (l' := #[.val (.int x0), .val (.int x1), .val (.int x2), .val (.int x3), .val (.int x4), .val (.int (2 : Int32)), .val (.ref sg1), .val (.ref sg5), .val (.ref sg9), .val (.ref b13), .val (.ref sg5), .val .null, .unset, .unset, .unset, .unset]) rfl (Steps.refl _)) ?_
      show own_G p.tables e below _ (T62.setTop (mkF m 128 #[.val (.int x0), .val (.int x1), .val (.int x2), .val (.int x3), .val (.int x4), .val (.int (2 : Int32)), .val (.ref sg1), .val (.ref sg5), .val (.ref sg9), .val (.ref b13), .val (.ref sg5), .val .null, .unset, .unset, .unset, .unset] []))
      refine own_fs (XS.iload X62.here hx rfl (hb hby at_128) rfl (Steps.refl _)) ?_
      show own_G p.tables e below _ (T62.setTop (mkF m 130 #[.val (.int x0), .val (.int x1), .val (.int x2), .val (.int x3), .val (.int x4), .val (.int (2 : Int32)), .val (.ref sg1), .val (.ref sg5), .val (.ref sg9), .val (.ref b13), .val (.ref sg5), .val .null, .unset, .unset, .unset, .unset] [(.int x4)]))
      refine own_fs (XS.bipush X62.here hx rfl (hb hby at_130) (Steps.refl _)) ?_
      show own_G p.tables e below _ (T62.setTop (mkF m 132 #[.val (.int x0), .val (.int x1), .val (.int x2), .val (.int x3), .val (.int x4), .val (.int (2 : Int32)), .val (.ref sg1), .val (.ref sg5), .val (.ref sg9), .val (.ref b13), .val (.ref sg5), .val .null, .unset, .unset, .unset, .unset] [(.int (9 : Int32)), (.int x4)]))
      refine own_fs (XS.iushr X62.here hx rfl (hb hby at_132) rfl (Steps.refl _)) ?_
      show own_G p.tables e below _ (T62.setTop (mkF m 133 #[.val (.int x0), .val (.int x1), .val (.int x2), .val (.int x3), .val (.int x4), .val (.int (2 : Int32)), .val (.ref sg1), .val (.ref sg5), .val (.ref sg9), .val (.ref b13), .val (.ref sg5), .val .null, .unset, .unset, .unset, .unset] [(.int ((x4.toUInt32 >>> ((9 : Int32) &&& 31).toUInt32).toInt32))]))
      refine own_fs (XS.sipush X62.here hx rfl (hb hby at_133) (Steps.refl _)) ?_
      show own_G p.tables e below _ (T62.setTop (mkF m 136 #[.val (.int x0), .val (.int x1), .val (.int x2), .val (.int x3), .val (.int x4), .val (.int (2 : Int32)), .val (.ref sg1), .val (.ref sg5), .val (.ref sg9), .val (.ref b13), .val (.ref sg5), .val .null, .unset, .unset, .unset, .unset] [(.int (255 : Int32)), (.int ((x4.toUInt32 >>> ((9 : Int32) &&& 31).toUInt32).toInt32))]))
      refine own_fs (XS.iand X62.here hx rfl (hb hby at_136) rfl (Steps.refl _)) ?_
      show own_G p.tables e below _ (T62.setTop (mkF m 137 #[.val (.int x0), .val (.int x1), .val (.int x2), .val (.int x3), .val (.int x4), .val (.int (2 : Int32)), .val (.ref sg1), .val (.ref sg5), .val (.ref sg9), .val (.ref b13), .val (.ref sg5), .val .null, .unset, .unset, .unset, .unset] [(.int (((x4.toUInt32 >>> ((9 : Int32) &&& 31).toUInt32).toInt32) &&& (255 : Int32)))]))
      refine own_fs (XS.i2c X62.here hx rfl (hb hby at_137) rfl (Steps.refl _)) ?_
      show own_G p.tables e below _ (T62.setTop (mkF m 138 #[.val (.int x0), .val (.int x1), .val (.int x2), .val (.int x3), .val (.int x4), .val (.int (2 : Int32)), .val (.ref sg1), .val (.ref sg5), .val (.ref sg9), .val (.ref b13), .val (.ref sg5), .val .null, .unset, .unset, .unset, .unset] [(.int ((((x4.toUInt32 >>> ((9 : Int32) &&& 31).toUInt32).toInt32) &&& (255 : Int32)).toUInt32.toUInt16.toUInt32.toInt32))]))
      have Zs89 : n0 ≤ h62.size := (Nat.le_trans (Nat.le_trans (Nat.le_trans (Nat.le_trans (Nat.le_trans (Nat.le_trans (Nat.le_trans Z0 K3.1) K7.1) K11.1) E13.1) K15.1) K19.1) K62.1)
      obtain ⟨_, _, ⟨T88, L88, k88, n88⟩, -, X88, ⟨Lc88, hQ88, l88, y88, z88⟩, st88⟩ := Jvm.LawKit.callS X62 hx (y := (⟨"java/lang/String", "valueOf", "(C)Ljava/lang/String;"⟩ : MethodName)) hown (mvT hZ (hw _ (List.mem_of_getElem? (i := 90) rfl))) (mvT hZ (hw _ (List.mem_of_getElem? (i := 91) rfl))) (mvT hZ (hw _ (List.mem_of_getElem? (i := 8) rfl))) (mvT hZ (hw _ (List.mem_of_getElem? (i := 92) rfl))) (by decide) (backOf (W := 0) (own_valueOfC l Z a0 hw [] ((((x4.toUInt32 >>> ((9 : Int32) &&& 31).toUInt32).toInt32) &&& (255 : Int32)).toUInt32.toUInt16.toUInt32.toInt32) cz h62 n0 Zs89 hSc hcz (Old.keep (Old.keep (Old.keep (Old.ext (Old.keep (Old.keep (Old.keep hOld K3 all0) K7 all0) K11 all0) E13) K15 (allS ge_b13 all0)) K19 (allS ge_b13 all0)) K62 (allS ge_b13 (allS ge_br17 all0))) (own_ch _).2) hZ (hw _ (List.mem_of_getElem? (i := 92) rfl)) (hw _ (List.mem_of_getElem? (i := 8) rfl)) (by decide) (by decide)) (g := (mkF m 138 #[.val (.int x0), .val (.int x1), .val (.int x2), .val (.int x3), .val (.int x4), .val (.int (2 : Int32)), .val (.ref sg1), .val (.ref sg5), .val (.ref sg9), .val (.ref b13), .val (.ref sg5), .val .null, .unset, .unset, .unset, .unset] [(.int ((((x4.toUInt32 >>> ((9 : Int32) &&& 31).toUInt32).toInt32) &&& (255 : Int32)).toUInt32.toUInt16.toUInt32.toInt32))])) rfl (by rw [hml]; rfl) (argsL := [(.int ((((x4.toUInt32 >>> ((9 : Int32) &&& 31).toUInt32).toInt32) &&& (255 : Int32)).toUInt32.toUInt16.toUInt32.toInt32))]) (rest := []) (lenOf own_pd14 rfl) rfl (by show 2 * 0 + _ ≤ _; exact Nat.le_of_eq rfl) (hb hby at_138) (fun _ _ => ⟨rfl, e62, (by decide : 11 + 2 ≤ _), (by decide : 37 + 5 ≤ _)⟩)
      dsimp only [Pt.U, Pt.locs, Pt.cells, Pt.slots] at X88 l88 y88 z88 st88 hQ88
      subst l88 y88 z88
      obtain ⟨h88, e88⟩ : ∃ h, T88.heap = h := ⟨_, rfl⟩
      rw [e88] at hQ88
      obtain ⟨sv86, rfl, Nq88, K88, P87_0, P87_1⟩ := hQ88
      have N88 := Fr.app N62 Nq88
      have ge_sv86 : n0 ≤ sv86 := Nat.le_trans (Nat.le_trans (Nat.le_trans (Nat.le_trans (Nat.le_trans (Nat.le_trans (Nat.le_trans (Nat.le_trans Z0 K3.1) K7.1) K11.1) E13.1) K15.1) K19.1) K62.1) P87_1
      have gz_sv86 : h0.size ≤ sv86 := Nat.le_trans (Nat.le_trans (Nat.le_trans (Nat.le_trans (Nat.le_trans (Nat.le_trans (Nat.le_trans (Nat.le_trans (Nat.le_refl _) K3.1) K7.1) K11.1) E13.1) K15.1) K19.1) K62.1) P87_1
      refine own_fs (st88 _ (Steps.refl _)) ?_
      show own_G p.tables e below _ (T88.setTop (mkF m 141 #[.val (.int x0), .val (.int x1), .val (.int x2), .val (.int x3), .val (.int x4), .val (.int (2 : Int32)), .val (.ref sg1), .val (.ref sg5), .val (.ref sg9), .val (.ref b13), .val (.ref sg5), .val .null, .unset, .unset, .unset, .unset] [(.ref sv86)]))
      refine own_fs (XS.astore X88.here hx rfl (hb hby at_141) rfl rfl (l' := #[.val (.int x0), .val (.int x1), .val (.int x2), .val (.int x3), .val (.int x4), .val (.int (2 : Int32)), .val (.ref sg1), .val (.ref sg5), .val (.ref sg9), .val (.ref b13), .val (.ref sg5), .val .null, .val (.ref sv86), .unset, .unset, .unset]) rfl (Steps.refl _)) ?_
      show own_G p.tables e below _ (T88.setTop (mkF m 143 #[.val (.int x0), .val (.int x1), .val (.int x2), .val (.int x3), .val (.int x4), .val (.int (2 : Int32)), .val (.ref sg1), .val (.ref sg5), .val (.ref sg9), .val (.ref b13), .val (.ref sg5), .val .null, .val (.ref sv86), .unset, .unset, .unset] []))
      refine own_fs (XS.iload X88.here hx rfl (hb hby at_143) rfl (Steps.refl _)) ?_
      show own_G p.tables e below _ (T88.setTop (mkF m 145 #[.val (.int x0), .val (.int x1), .val (.int x2), .val (.int x3), .val (.int x4), .val (.int (2 : Int32)), .val (.ref sg1), .val (.ref sg5), .val (.ref sg9), .val (.ref b13), .val (.ref sg5), .val .null, .val (.ref sv86), .unset, .unset, .unset] [(.int x4)]))
      refine own_fs (XS.bipush X88.here hx rfl (hb hby at_145) (Steps.refl _)) ?_
      show own_G p.tables e below _ (T88.setTop (mkF m 147 #[.val (.int x0), .val (.int x1), .val (.int x2), .val (.int x3), .val (.int x4), .val (.int (2 : Int32)), .val (.ref sg1), .val (.ref sg5), .val (.ref sg9), .val (.ref b13), .val (.ref sg5), .val .null, .val (.ref sv86), .unset, .unset, .unset] [(.int (17 : Int32)), (.int x4)]))
      refine own_fs (XS.iushr X88.here hx rfl (hb hby at_147) rfl (Steps.refl _)) ?_
      show own_G p.tables e below _ (T88.setTop (mkF m 148 #[.val (.int x0), .val (.int x1), .val (.int x2), .val (.int x3), .val (.int x4), .val (.int (2 : Int32)), .val (.ref sg1), .val (.ref sg5), .val (.ref sg9), .val (.ref b13), .val (.ref sg5), .val .null, .val (.ref sv86), .unset, .unset, .unset] [(.int ((x4.toUInt32 >>> ((17 : Int32) &&& 31).toUInt32).toInt32))]))
      refine own_fs (XS.sipush X88.here hx rfl (hb hby at_148) (Steps.refl _)) ?_
      show own_G p.tables e below _ (T88.setTop (mkF m 151 #[.val (.int x0), .val (.int x1), .val (.int x2), .val (.int x3), .val (.int x4), .val (.int (2 : Int32)), .val (.ref sg1), .val (.ref sg5), .val (.ref sg9), .val (.ref b13), .val (.ref sg5), .val .null, .val (.ref sv86), .unset, .unset, .unset] [(.int (255 : Int32)), (.int ((x4.toUInt32 >>> ((17 : Int32) &&& 31).toUInt32).toInt32))]))
      refine own_fs (XS.iand X88.here hx rfl (hb hby at_151) rfl (Steps.refl _)) ?_
      show own_G p.tables e below _ (T88.setTop (mkF m 152 #[.val (.int x0), .val (.int x1), .val (.int x2), .val (.int x3), .val (.int x4), .val (.int (2 : Int32)), .val (.ref sg1), .val (.ref sg5), .val (.ref sg9), .val (.ref b13), .val (.ref sg5), .val .null, .val (.ref sv86), .unset, .unset, .unset] [(.int (((x4.toUInt32 >>> ((17 : Int32) &&& 31).toUInt32).toInt32) &&& (255 : Int32)))]))
      refine own_fs (XS.i2c X88.here hx rfl (hb hby at_152) rfl (Steps.refl _)) ?_
      show own_G p.tables e below _ (T88.setTop (mkF m 153 #[.val (.int x0), .val (.int x1), .val (.int x2), .val (.int x3), .val (.int x4), .val (.int (2 : Int32)), .val (.ref sg1), .val (.ref sg5), .val (.ref sg9), .val (.ref b13), .val (.ref sg5), .val .null, .val (.ref sv86), .unset, .unset, .unset] [(.int ((((x4.toUInt32 >>> ((17 : Int32) &&& 31).toUInt32).toInt32) &&& (255 : Int32)).toUInt32.toUInt16.toUInt32.toInt32))]))
      have Zs93 : n0 ≤ h88.size := (Nat.le_trans (Nat.le_trans (Nat.le_trans (Nat.le_trans (Nat.le_trans (Nat.le_trans (Nat.le_trans (Nat.le_trans Z0 K3.1) K7.1) K11.1) E13.1) K15.1) K19.1) K62.1) K88.1)
      obtain ⟨_, _, ⟨T92, L92, k92, n92⟩, -, X92, ⟨Lc92, hQ92, l92, y92, z92⟩, st92⟩ := Jvm.LawKit.callS X88 hx (y := (⟨"java/lang/String", "valueOf", "(C)Ljava/lang/String;"⟩ : MethodName)) hown (mvT hZ (hw _ (List.mem_of_getElem? (i := 90) rfl))) (mvT hZ (hw _ (List.mem_of_getElem? (i := 91) rfl))) (mvT hZ (hw _ (List.mem_of_getElem? (i := 8) rfl))) (mvT hZ (hw _ (List.mem_of_getElem? (i := 92) rfl))) (by decide) (backOf (W := 0) (own_valueOfC l Z a0 hw [] ((((x4.toUInt32 >>> ((17 : Int32) &&& 31).toUInt32).toInt32) &&& (255 : Int32)).toUInt32.toUInt16.toUInt32.toInt32) cz h88 n0 Zs93 hSc hcz (Old.keep (Old.keep (Old.keep (Old.keep (Old.ext (Old.keep (Old.keep (Old.keep hOld K3 all0) K7 all0) K11 all0) E13) K15 (allS ge_b13 all0)) K19 (allS ge_b13 all0)) K62 (allS ge_b13 (allS ge_br17 all0))) K88 all0) (own_ch _).2) hZ (hw _ (List.mem_of_getElem? (i := 92) rfl)) (hw _ (List.mem_of_getElem? (i := 8) rfl)) (by decide) (by decide)) (g := (mkF m 153 #[.val (.int x0), .val (.int x1), .val (.int x2), .val (.int x3), .val (.int x4), .val (.int (2 : Int32)), .val (.ref sg1), .val (.ref sg5), .val (.ref sg9), .val (.ref b13), .val (.ref sg5), .val .null, .val (.ref sv86), .unset, .unset, .unset] [(.int ((((x4.toUInt32 >>> ((17 : Int32) &&& 31).toUInt32).toInt32) &&& (255 : Int32)).toUInt32.toUInt16.toUInt32.toInt32))])) rfl (by rw [hml]; rfl) (argsL := [(.int ((((x4.toUInt32 >>> ((17 : Int32) &&& 31).toUInt32).toInt32) &&& (255 : Int32)).toUInt32.toUInt16.toUInt32.toInt32))]) (rest := []) (lenOf own_pd14 rfl) rfl (by show 2 * 0 + _ ≤ _; exact Nat.le_of_eq rfl) (hb hby at_153) (fun _ _ => ⟨rfl, e88, (by decide : 13 + 2 ≤ _), (by decide : 42 + 5 ≤ _)⟩)
      dsimp only [Pt.U, Pt.locs, Pt.cells, Pt.slots] at X92 l92 y92 z92 st92 hQ92
      subst l92 y92 z92
      obtain ⟨h92, e92⟩ : ∃ h, T92.heap = h := ⟨_, rfl⟩
      rw [e92] at hQ92
      obtain ⟨sv90, rfl, Nq92, K92, P91_0, P91_1⟩ := hQ92
      have N92 := Fr.app N88 Nq92
      have ge_sv90 : n0 ≤ sv90 := Nat.le_trans (Nat.le_trans (Nat.le_trans (Nat.le_trans (Nat.le_trans (Nat.le_trans (Nat.le_trans (Nat.le_trans (Nat.le_trans Z0 K3.1) K7.1) K11.1) E13.1) K15.1) K19.1) K62.1) K88.1) P91_1
      have gz_sv90 : h0.size ≤ sv90 := Nat.le_trans (Nat.le_trans (Nat.le_trans (Nat.le_trans (Nat.le_trans (Nat.le_trans (Nat.le_trans (Nat.le_trans (Nat.le_trans (Nat.le_refl _) K3.1) K7.1) K11.1) E13.1) K15.1) K19.1) K62.1) K88.1) P91_1
      refine own_fs (st92 _ (Steps.refl _)) ?_
      show own_G p.tables e below _ (T92.setTop (mkF m 156 #[.val (.int x0), .val (.int x1), .val (.int x2), .val (.int x3), .val (.int x4), .val (.int (2 : Int32)), .val (.ref sg1), .val (.ref sg5), .val (.ref sg9), .val (.ref b13), .val (.ref sg5), .val .null, .val (.ref sv86), .unset, .unset, .unset] [(.ref sv90)]))
      refine own_fs (XS.astore X92.here hx rfl (hb hby at_156) rfl rfl (l' := #[.val (.int x0), .val (.int x1), .val (.int x2), .val (.int x3), .val (.int x4), .val (.int (2 : Int32)), .val (.ref sg1), .val (.ref sg5), .val (.ref sg9), .val (.ref b13), .val (.ref sg5), .val .null, .val (.ref sv86), .val (.ref sv90), .unset, .unset]) rfl (Steps.refl _)) ?_
      show own_G p.tables e below _ (T92.setTop (mkF m 158 #[.val (.int x0), .val (.int x1), .val (.int x2), .val (.int x3), .val (.int x4), .val (.int (2 : Int32)), .val (.ref sg1), .val (.ref sg5), .val (.ref sg9), .val (.ref b13), .val (.ref sg5), .val .null, .val (.ref sv86), .val (.ref sv90), .unset, .unset] []))
      obtain ⟨T94, h94, X94, e94, E94, A94, D94, -, st94⟩ := newO X92 hx hZ hown (hw _ (List.mem_of_getElem? (i := 104) rfl)) (hw _ (List.mem_of_getElem? (i := 105) rfl)) (hw _ (List.mem_of_getElem? (i := 106) rfl)) e92 (g := (mkF m 158 #[.val (.int x0), .val (.int x1), .val (.int x2), .val (.int x3), .val (.int x4), .val (.int (2 : Int32)), .val (.ref sg1), .val (.ref sg5), .val (.ref sg9), .val (.ref b13), .val (.ref sg5), .val .null, .val (.ref sv86), .val (.ref sv90), .unset, .unset] [])) rfl (hb hby at_158) (by decide) (by decide)
      obtain ⟨b94, g94⟩ : ∃ z, z = h92.size := ⟨_, rfl⟩
      rw [← g94] at A94 D94 st94
      have ge_b94 : n0 ≤ b94 := Nat.le_trans (Nat.le_trans (Nat.le_trans (Nat.le_trans (Nat.le_trans (Nat.le_trans (Nat.le_trans (Nat.le_trans (Nat.le_trans (Nat.le_trans Z0 K3.1) K7.1) K11.1) E13.1) K15.1) K19.1) K62.1) K88.1) K92.1) (Nat.le_of_eq g94.symm)
      have gz_b94 : h0.size ≤ b94 := Nat.le_trans (Nat.le_trans (Nat.le_trans (Nat.le_trans (Nat.le_trans (Nat.le_trans (Nat.le_trans (Nat.le_trans (Nat.le_trans (Nat.le_trans (Nat.le_refl _) K3.1) K7.1) K11.1) E13.1) K15.1) K19.1) K62.1) K88.1) K92.1) (Nat.le_of_eq g94.symm)
      have F_version_b94 : Fld Z h94 b94 "com/example/corbelpath/corbelpath/Deployment$Target" "version" "Ljava/lang/String;" .null := D94 (Or.inr (hw _ (List.mem_of_getElem? (i := 117) rfl))) (ty := (.object "java/lang/String")) (by decide)
      have F_locale_b94 : Fld Z h94 b94 "com/example/corbelpath/corbelpath/Deployment$Target" "locale" "Ljava/lang/String;" .null := D94 (Or.inr (hw _ (List.mem_of_getElem? (i := 119) rfl))) (ty := (.object "java/lang/String")) (by decide)
      have F_library_b94 : Fld Z h94 b94 "com/example/corbelpath/corbelpath/Deployment$Target" "library" "Ljava/lang/String;" .null := D94 (Or.inr (hw _ (List.mem_of_getElem? (i := 121) rfl))) (ty := (.object "java/lang/String")) (by decide)
      have F_path_b94 : Fld Z h94 b94 "com/example/corbelpath/corbelpath/Deployment$Target" "path" "Ljava/util/List;" .null := D94 (Or.inr (hw _ (List.mem_of_getElem? (i := 123) rfl))) (ty := (.object "java/util/List")) (by decide)
      refine own_fs (st94 _ (Steps.refl _)) ?_
      show own_G p.tables e below _ (T94.setTop (mkF m 161 #[.val (.int x0), .val (.int x1), .val (.int x2), .val (.int x3), .val (.int x4), .val (.int (2 : Int32)), .val (.ref sg1), .val (.ref sg5), .val (.ref sg9), .val (.ref b13), .val (.ref sg5), .val .null, .val (.ref sv86), .val (.ref sv90), .unset, .unset] [(.ref b94)]))
      refine own_fs (XS.dup X94.here hx rfl (hb hby at_161) rfl rfl (Steps.refl _)) ?_
      show own_G p.tables e below _ (T94.setTop (mkF m 162 #[.val (.int x0), .val (.int x1), .val (.int x2), .val (.int x3), .val (.int x4), .val (.int (2 : Int32)), .val (.ref sg1), .val (.ref sg5), .val (.ref sg9), .val (.ref b13), .val (.ref sg5), .val .null, .val (.ref sv86), .val (.ref sv90), .unset, .unset] [(.ref b94), (.ref b94)]))
      refine own_fs (XS.aload X94.here hx rfl (hb hby at_162) rfl rfl (Steps.refl _)) ?_
      show own_G p.tables e below _ (T94.setTop (mkF m 164 #[.val (.int x0), .val (.int x1), .val (.int x2), .val (.int x3), .val (.int x4), .val (.int (2 : Int32)), .val (.ref sg1), .val (.ref sg5), .val (.ref sg9), .val (.ref b13), .val (.ref sg5), .val .null, .val (.ref sv86), .val (.ref sv90), .unset, .unset] [(.ref sv86), (.ref b94), (.ref b94)]))
      refine own_fs (XS.aload X94.here hx rfl (hb hby at_164) rfl rfl (Steps.refl _)) ?_
      show own_G p.tables e below _ (T94.setTop (mkF m 166 #[.val (.int x0), .val (.int x1), .val (.int x2), .val (.int x3), .val (.int x4), .val (.int (2 : Int32)), .val (.ref sg1), .val (.ref sg5), .val (.ref sg9), .val (.ref b13), .val (.ref sg5), .val .null, .val (.ref sv86), .val (.ref sv90), .unset, .unset] [.null, (.ref sv86), (.ref b94), (.ref b94)]))
      refine own_fs (XS.aload X94.here hx rfl (hb hby at_166) rfl rfl (Steps.refl _)) ?_
      show own_G p.tables e below _ (T94.setTop (mkF m 168 #[.val (.int x0), .val (.int x1), .val (.int x2), .val (.int x3), .val (.int x4), .val (.int (2 : Int32)), .val (.ref sg1), .val (.ref sg5), .val (.ref sg9), .val (.ref b13), .val (.ref sg5), .val .null, .val (.ref sv86), .val (.ref sv90), .unset, .unset] [(.ref sv90), .null, (.ref sv86), (.ref b94), (.ref b94)]))
      refine own_fs (XS.aload X94.here hx rfl (hb hby at_168) rfl rfl (Steps.refl _)) ?_
      show own_G p.tables e below _ (T94.setTop (mkF m 170 #[.val (.int x0), .val (.int x1), .val (.int x2), .val (.int x3), .val (.int x4), .val (.int (2 : Int32)), .val (.ref sg1), .val (.ref sg5), .val (.ref sg9), .val (.ref b13), .val (.ref sg5), .val .null, .val (.ref sv86), .val (.ref sv90), .unset, .unset] [(.ref b13), (.ref sv90), .null, (.ref sv86), (.ref b94), (.ref b94)]))
      have Zs97 : n0 ≤ h94.size := (Nat.le_trans (Nat.le_trans (Nat.le_trans (Nat.le_trans (Nat.le_trans (Nat.le_trans (Nat.le_trans (Nat.le_trans (Nat.le_trans (Nat.le_trans Z0 K3.1) K7.1) K11.1) E13.1) K15.1) K19.1) K62.1) K88.1) K92.1) E94.1)
      obtain ⟨_, _, ⟨T96, L96, k96, n96⟩, -, X96, ⟨Lc96, hQ96, l96, y96, z96⟩, st96⟩ := X94.specialBack hx (y := (⟨"com/example/corbelpath/corbelpath/Deployment$Target", "<init>", "(Ljava/lang/String;Ljava/lang/String;Ljava/lang/String;Ljava/util/List;)V"⟩ : MethodName)) rfl hown (mvT hZ (hw _ (List.mem_of_getElem? (i := 107) rfl))) (mvT hZ (hw _ (List.mem_of_getElem? (i := 108) rfl))) (mvT hZ (hw _ (List.mem_of_getElem? (i := 109) rfl))) (by decide) (backOf (W := 1) (own_i_Target1 l Z a0 hw [] b94 sv86 sv90 b13 (.null) (.null) (.null) (.null) h94 n0 Zs97 A94 F_version_b94 F_locale_b94 F_library_b94 F_path_b94 ge_b94) hZ (hw _ (List.mem_of_getElem? (i := 109) rfl)) (hw _ (List.mem_of_getElem? (i := 106) rfl)) (by decide) (by decide)) (g := (mkF m 170 #[.val (.int x0), .val (.int x1), .val (.int x2), .val (.int x3), .val (.int x4), .val (.int (2 : Int32)), .val (.ref sg1), .val (.ref sg5), .val (.ref sg9), .val (.ref b13), .val (.ref sg5), .val .null, .val (.ref sv86), .val (.ref sv90), .unset, .unset] [(.ref b13), (.ref sv90), .null, (.ref sv86), (.ref b94), (.ref b94)])) rfl (by rw [hml]; rfl) (Steps.refl _) (a := b94) (argsL := [(.ref sv86), .null, (.ref sv90), (.ref b13)]) (rest := [(.ref b94)]) (lenOf own_pd15 rfl) rfl (by show 2 * 0 + _ ≤ _; exact Nat.le_of_eq rfl) (hb hby at_170) (fun _ _ => ⟨rfl, e94, (by decide : 16 + 0 ≤ _), (by decide : 51 + 0 ≤ _)⟩)
      dsimp only [Pt.U, Pt.locs, Pt.cells, Pt.slots] at X96 l96 y96 z96 st96 hQ96
      subst l96 y96 z96
      obtain ⟨h96, e96⟩ : ∃ h, T96.heap = h := ⟨_, rfl⟩
      rw [e96] at hQ96
      obtain ⟨rfl, Nq96, K96, P95_0⟩ := hQ96
      have N96 := Fr.app N92 Nq96
      refine own_fs st96 ?_
      show own_G p.tables e below _ (T96.setTop (mkF m 173 #[.val (.int x0), .val (.int x1), .val (.int x2), .val (.int x3), .val (.int x4), .val (.int (2 : Int32)), .val (.ref sg1), .val (.ref sg5), .val (.ref sg9), .val (.ref b13), .val (.ref sg5), .val .null, .val (.ref sv86), .val (.ref sv90), .unset, .unset] [(.ref b94)]))
      refine own_fs (XS.astore X96.here hx rfl (hb hby at_173) rfl rfl (l' := #[.val (.int x0), .val (.int x1), .val (.int x2), .val (.int x3), .val (.int x4), .val (.int (2 : Int32)), .val (.ref sg1), .val (.ref sg5), .val (.ref sg9), .val (.ref b13), .val (.ref sg5), .val .null, .val (.ref sv86), .val (.ref sv90), .val (.ref b94), .unset]) rfl (Steps.refl _)) ?_
      show own_G p.tables e below _ (T96.setTop (mkF m 175 #[.val (.int x0), .val (.int x1), .val (.int x2), .val (.int x3), .val (.int x4), .val (.int (2 : Int32)), .val (.ref sg1), .val (.ref sg5), .val (.ref sg9), .val (.ref b13), .val (.ref sg5), .val .null, .val (.ref sv86), .val (.ref sv90), .val (.ref b94), .unset] []))
      refine own_fs (XS.aload X96.here hx rfl (hb hby at_175) rfl rfl (Steps.refl _)) ?_
      show own_G p.tables e below _ (T96.setTop (mkF m 177 #[.val (.int x0), .val (.int x1), .val (.int x2), .val (.int x3), .val (.int x4), .val (.int (2 : Int32)), .val (.ref sg1), .val (.ref sg5), .val (.ref sg9), .val (.ref b13), .val (.ref sg5), .val .null, .val (.ref sv86), .val (.ref sv90), .val (.ref b94), .unset] [(.ref b94)]))
      have Zs100 : n0 ≤ h96.size := (Nat.le_trans (Nat.le_trans (Nat.le_trans (Nat.le_trans (Nat.le_trans (Nat.le_trans (Nat.le_trans (Nat.le_trans (Nat.le_trans (Nat.le_trans (Nat.le_trans Z0 K3.1) K7.1) K11.1) E13.1) K15.1) K19.1) K62.1) K88.1) K92.1) E94.1) K96.1)
      obtain ⟨cq99, kq99, q99a, q99b, q99c⟩ := isOf hZ e96 (A94.keep K96)
      obtain ⟨_, _, ⟨T99, L99, k99, n99⟩, -, X99, ⟨Lc99, hQ99, l99, y99, z99⟩, st99⟩ := X96.virtualBack hx (y := (⟨"com/example/corbelpath/corbelpath/Deployment$Target", "fileName", "()Ljava/lang/String;"⟩ : MethodName)) (z := (⟨"com/example/corbelpath/corbelpath/Deployment$Target", "fileName", "()Ljava/lang/String;"⟩ : MethodName)) hown (mvT hZ (hw _ (List.mem_of_getElem? (i := 124) rfl))) (mvT hZ (hw _ (List.mem_of_getElem? (i := 125) rfl))) (notFace_of_selects (args := #[]) (mvT hZ (hw _ (List.mem_of_getElem? (i := 127) rfl)))) (mvT hZ (hw _ (List.mem_of_getElem? (i := 127) rfl))) (mvT hZ (hw _ (List.mem_of_getElem? (i := 126) rfl))) (by decide) (backOf (W := 0) (own_fname2 l Z a0 hw [] b94 b13 sg1 sg5 br17 kr17 h96 n0 Zs100 P95_0 ((Exa.ext E94 (((((A13.keep K15).keep K19).keep K62).keep K88).keep K92)).keep K96) ((Fld.ext E94 ((P61_2.keep K88 nin0).keep K92 nin0)).keep K96 (ninS (Nat.ne_of_lt (Nat.lt_of_lt_of_le (Exa.lt (((((A13.keep K15).keep K19).keep K62).keep K88).keep K92)) (Nat.le_of_eq g94.symm))) nin0)) ((Fld.ext E94 ((P61_1.keep K88 nin0).keep K92 nin0)).keep K96 (ninS (Nat.ne_of_lt (Nat.lt_of_lt_of_le (Exa.lt (((((A13.keep K15).keep K19).keep K62).keep K88).keep K92)) (Nat.le_of_eq g94.symm))) nin0)) ((((P61_3.keep K88 nin0).keep K92 nin0).ext E94).keep K96 (ninS (Nat.ne_of_lt (Nat.lt_of_lt_of_le (Arv.lt ((P61_3.keep K88 nin0).keep K92 nin0)) (Nat.le_of_eq g94.symm))) nin0)) ((Exa.ext E94 ((((((Exa.ext E13 (P6_0.keep K11)).keep K15).keep K19).keep K62).keep K88).keep K92)).keep K96)) hZ (hw _ (List.mem_of_getElem? (i := 128) rfl)) (hw _ (List.mem_of_getElem? (i := 106) rfl)) (by decide) (by decide)) q99a q99c (g := (mkF m 177 #[.val (.int x0), .val (.int x1), .val (.int x2), .val (.int x3), .val (.int x4), .val (.int (2 : Int32)), .val (.ref sg1), .val (.ref sg5), .val (.ref sg9), .val (.ref b13), .val (.ref sg5), .val .null, .val (.ref sv86), .val (.ref sv90), .val (.ref b94), .unset] [(.ref b94)])) rfl (by rw [hml]; rfl) (Steps.refl _) (argsL := []) (rest := []) (lenOf own_pd16 rfl) rfl (by show 2 * 0 + _ ≤ _; exact Nat.le_of_eq rfl) (hb hby at_177) (fun _ _ => ⟨rfl, e96, (by decide : 16 + 0 ≤ _), (by decide : 51 + 0 ≤ _)⟩)
      dsimp only [Pt.U, Pt.locs, Pt.cells, Pt.slots] at X99 l99 y99 z99 st99 hQ99
      subst l99 y99 z99
      obtain ⟨rfl, Nq99, e99⟩ := hQ99
      have N99 := Fr.app N96 Nq99
      refine own_fs st99 ?_
      show own_G p.tables e below _ (T99.setTop (mkF m 180 #[.val (.int x0), .val (.int x1), .val (.int x2), .val (.int x3), .val (.int x4), .val (.int (2 : Int32)), .val (.ref sg1), .val (.ref sg5), .val (.ref sg9), .val (.ref b13), .val (.ref sg5), .val .null, .val (.ref sv86), .val (.ref sv90), .val (.ref b94), .unset] [(.ref sg5)]))
      refine own_fs (XS.astore X99.here hx rfl (hb hby at_180) rfl rfl (l' := #[.val (.int x0), .val (.int x1), .val (.int x2), .val (.int x3), .val (.int x4), .val (.int (2 : Int32)), .val (.ref sg1), .val (.ref sg5), .val (.ref sg9), .val (.ref b13), .val (.ref sg5), .val .null, .val (.ref sv86), .val (.ref sv90), .val (.ref b94), .val (.ref sg5)]) rfl (Steps.refl _)) ?_
      show own_G p.tables e below _ (T99.setTop (mkF m 182 #[.val (.int x0), .val (.int x1), .val (.int x2), .val (.int x3), .val (.int x4), .val (.int (2 : Int32)), .val (.ref sg1), .val (.ref sg5), .val (.ref sg9), .val (.ref b13), .val (.ref sg5), .val .null, .val (.ref sv86), .val (.ref sv90), .val (.ref b94), .val (.ref sg5)] []))
      refine own_fs (XS.aload X99.here hx rfl (hb hby at_182) rfl rfl (Steps.refl _)) ?_
      show own_G p.tables e below _ (T99.setTop (mkF m 184 #[.val (.int x0), .val (.int x1), .val (.int x2), .val (.int x3), .val (.int x4), .val (.int (2 : Int32)), .val (.ref sg1), .val (.ref sg5), .val (.ref sg9), .val (.ref b13), .val (.ref sg5), .val .null, .val (.ref sv86), .val (.ref sv90), .val (.ref b94), .val (.ref sg5)] [(.ref sg5)]))
      refine own_fs (XS.ifnullNo X99.here hx rfl (hb hby at_184) rfl (Steps.refl _)) ?_
      show own_G p.tables e below _ (T99.setTop (mkF m 187 #[.val (.int x0), .val (.int x1), .val (.int x2), .val (.int x3), .val (.int x4), .val (.int (2 : Int32)), .val (.ref sg1), .val (.ref sg5), .val (.ref sg9), .val (.ref b13), .val (.ref sg5), .val .null, .val (.ref sv86), .val (.ref sv90), .val (.ref b94), .val (.ref sg5)] []))
      refine own_fs (XS.aload X99.here hx rfl (hb hby at_187) rfl rfl (Steps.refl _)) ?_
      show own_G p.tables e below _ (T99.setTop (mkF m 189 #[.val (.int x0), .val (.int x1), .val (.int x2), .val (.int x3), .val (.int x4), .val (.int (2 : Int32)), .val (.ref sg1), .val (.ref sg5), .val (.ref sg9), .val (.ref b13), .val (.ref sg5), .val .null, .val (.ref sv86), .val (.ref sv90), .val (.ref b94), .val (.ref sg5)] [(.ref sg5)]))
      refine own_fs (XS.aload X99.here hx rfl (hb hby at_189) rfl rfl (Steps.refl _)) ?_
      show own_G p.tables e below _ (T99.setTop (mkF m 191 #[.val (.int x0), .val (.int x1), .val (.int x2), .val (.int x3), .val (.int x4), .val (.int (2 : Int32)), .val (.ref sg1), .val (.ref sg5), .val (.ref sg9), .val (.ref b13), .val (.ref sg5), .val .null, .val (.ref sv86), .val (.ref sv90), .val (.ref b94), .val (.ref sg5)] [(.ref sg5), (.ref sg5)]))
      have Zs103 : n0 ≤ h96.size := (Nat.le_trans (Nat.le_trans (Nat.le_trans (Nat.le_trans (Nat.le_trans (Nat.le_trans (Nat.le_trans (Nat.le_trans (Nat.le_trans (Nat.le_trans (Nat.le_trans Z0 K3.1) K7.1) K11.1) E13.1) K15.1) K19.1) K62.1) K88.1) K92.1) E94.1) K96.1)
      obtain ⟨cq102, kq102, q102a, q102b, q102c⟩ := isOf hZ e99 ((Exa.ext E94 ((((((Exa.ext E13 (P6_0.keep K11)).keep K15).keep K19).keep K62).keep K88).keep K92)).keep K96)
      obtain ⟨_, _, ⟨T102, L102, k102, n102⟩, -, X102, ⟨Lc102, hQ102, l102, y102, z102⟩, st102⟩ := X99.virtualBack hx (y := (⟨"java/lang/String", "equals", "(Ljava/lang/Object;)Z"⟩ : MethodName)) (z := (⟨"java/lang/String", "equals", "(Ljava/lang/Object;)Z"⟩ : MethodName)) hown (mvT hZ (hw _ (List.mem_of_getElem? (i := 160) rfl))) (mvT hZ (hw _ (List.mem_of_getElem? (i := 161) rfl))) (notFace_of_selects (args := #[]) (mvT hZ (hw _ (List.mem_of_getElem? (i := 163) rfl)))) (mvT hZ (hw _ (List.mem_of_getElem? (i := 163) rfl))) (mvT hZ (hw _ (List.mem_of_getElem? (i := 162) rfl))) (by decide) (backOf (W := 0) (own_streq l Z a0 hw [] sg5 h96 n0 Zs103 ) hZ (hw _ (List.mem_of_getElem? (i := 164) rfl)) (hw _ (List.mem_of_getElem? (i := 8) rfl)) (by decide) (by decide)) q102a q102c (g := (mkF m 191 #[.val (.int x0), .val (.int x1), .val (.int x2), .val (.int x3), .val (.int x4), .val (.int (2 : Int32)), .val (.ref sg1), .val (.ref sg5), .val (.ref sg9), .val (.ref b13), .val (.ref sg5), .val .null, .val (.ref sv86), .val (.ref sv90), .val (.ref b94), .val (.ref sg5)] [(.ref sg5), (.ref sg5)])) rfl (by rw [hml]; rfl) (Steps.refl _) (argsL := [(.ref sg5)]) (rest := []) (lenOf own_pd13 rfl) rfl (by show 2 * 0 + _ ≤ _; exact Nat.le_of_eq rfl) (hb hby at_191) (fun _ _ => ⟨rfl, e99, (by decide : 16 + 0 ≤ _), (by decide : 51 + 0 ≤ _)⟩)
      dsimp only [Pt.U, Pt.locs, Pt.cells, Pt.slots] at X102 l102 y102 z102 st102 hQ102
      subst l102 y102 z102
      obtain ⟨rfl, Nq102, e102⟩ := hQ102
      have N102 := Fr.app N99 Nq102
      refine own_fs st102 ?_
      show own_G p.tables e below _ (T102.setTop (mkF m 194 #[.val (.int x0), .val (.int x1), .val (.int x2), .val (.int x3), .val (.int x4), .val (.int (2 : Int32)), .val (.ref sg1), .val (.ref sg5), .val (.ref sg9), .val (.ref b13), .val (.ref sg5), .val .null, .val (.ref sv86), .val (.ref sv90), .val (.ref b94), .val (.ref sg5)] [(.int (1 : Int32))]))
      refine own_fs (XS.ifNo X102.here hx rfl (hb hby at_194) rfl (XT.i0_eq_f (by decide : ¬ ((1 : Int32) = (0 : Int32)))) (Steps.refl _)) ?_
      show own_G p.tables e below _ (T102.setTop (mkF m 197 #[.val (.int x0), .val (.int x1), .val (.int x2), .val (.int x3), .val (.int x4), .val (.int (2 : Int32)), .val (.ref sg1), .val (.ref sg5), .val (.ref sg9), .val (.ref b13), .val (.ref sg5), .val .null, .val (.ref sv86), .val (.ref sv90), .val (.ref b94), .val (.ref sg5)] []))
      refine own_fs (XS.iconst X102.here hx rfl (hb hby at_197) (Steps.refl _)) ?_
      show own_G p.tables e below _ (T102.setTop (mkF m 198 #[.val (.int x0), .val (.int x1), .val (.int x2), .val (.int x3), .val (.int x4), .val (.int (2 : Int32)), .val (.ref sg1), .val (.ref sg5), .val (.ref sg9), .val (.ref b13), .val (.ref sg5), .val .null, .val (.ref sv86), .val (.ref sv90), .val (.ref b94), .val (.ref sg5)] [(.int (1 : Int32))]))
      refine own_fs (XS.goto X102.here hx rfl (pc0 := 198) (pc' := 202) rfl (hb hby at_198) (by decide) (by decide) (Steps.refl _)) ?_
      show own_G p.tables e below _ (T102.setTop (mkF m 202 #[.val (.int x0), .val (.int x1), .val (.int x2), .val (.int x3), .val (.int x4), .val (.int (2 : Int32)), .val (.ref sg1), .val (.ref sg5), .val (.ref sg9), .val (.ref b13), .val (.ref sg5), .val .null, .val (.ref sv86), .val (.ref sv90), .val (.ref b94), .val (.ref sg5)] [(.int (1 : Int32))]))
      exact own_retN X102 hx (t := .boolean) Bd.returns hlk (by simp) (hb hby at_202) (by decide) (by decide) e102 ⟨rfl, N102⟩
  · rw [hn]
    show own_G p.tables e below _ (T19.setTop (mkF m 45 #[.val (.int x0), .val (.int x1), .val (.int x2), .val (.int x3), .val (.int x4), .val (.int (3 : Int32)), .val (.ref sg1), .val (.ref sg5), .val (.ref sg9), .val (.ref b13), .unset, .unset, .unset, .unset, .unset, .unset] []))
    refine own_fs (XS.iload X19.here hx rfl (hb hby at_45) rfl (Steps.refl _)) ?_
    show own_G p.tables e below _ (T19.setTop (mkF m 47 #[.val (.int x0), .val (.int x1), .val (.int x2), .val (.int x3), .val (.int x4), .val (.int (3 : Int32)), .val (.ref sg1), .val (.ref sg5), .val (.ref sg9), .val (.ref b13), .unset, .unset, .unset, .unset, .unset, .unset] [(.int (3 : Int32))]))
    refine own_fs (XS.iconst X19.here hx rfl (hb hby at_47) (Steps.refl _)) ?_
    show own_G p.tables e below _ (T19.setTop (mkF m 48 #[.val (.int x0), .val (.int x1), .val (.int x2), .val (.int x3), .val (.int x4), .val (.int (3 : Int32)), .val (.ref sg1), .val (.ref sg5), .val (.ref sg9), .val (.ref b13), .unset, .unset, .unset, .unset, .unset, .unset] [(.int (2 : Int32)), (.int (3 : Int32))]))
    refine own_fs (XS.icmpNo X19.here hx rfl (hb hby at_48) rfl (XT.ii_lt_f (by decide : ¬ ((3 : Int32) < (2 : Int32)))) (Steps.refl _)) ?_
    show own_G p.tables e below _ (T19.setTop (mkF m 51 #[.val (.int x0), .val (.int x1), .val (.int x2), .val (.int x3), .val (.int x4), .val (.int (3 : Int32)), .val (.ref sg1), .val (.ref sg5), .val (.ref sg9), .val (.ref b13), .unset, .unset, .unset, .unset, .unset, .unset] []))
    refine own_fs (XS.aload X19.here hx rfl (hb hby at_51) rfl rfl (Steps.refl _)) ?_
    show own_G p.tables e below _ (T19.setTop (mkF m 53 #[.val (.int x0), .val (.int x1), .val (.int x2), .val (.int x3), .val (.int x4), .val (.int (3 : Int32)), .val (.ref sg1), .val (.ref sg5), .val (.ref sg9), .val (.ref b13), .unset, .unset, .unset, .unset, .unset, .unset] [(.ref b13)]))
    refine own_fs (XS.aload X19.here hx rfl (hb hby at_53) rfl rfl (Steps.refl _)) ?_
    show own_G p.tables e below _ (T19.setTop (mkF m 55 #[.val (.int x0), .val (.int x1), .val (.int x2), .val (.int x3), .val (.int x4), .val (.int (3 : Int32)), .val (.ref sg1), .val (.ref sg5), .val (.ref sg9), .val (.ref b13), .unset, .unset, .unset, .unset, .unset, .unset] [(.ref sg5), (.ref b13)]))
    have Zs106 : n0 ≤ h19.size := (Nat.le_trans (Nat.le_trans (Nat.le_trans (Nat.le_trans (Nat.le_trans (Nat.le_trans Z0 K3.1) K7.1) K11.1) E13.1) K15.1) K19.1)
    obtain ⟨cq105, kq105, q105a, q105b, q105c⟩ := isOf hZ e19 ((A13.keep K15).keep K19)
    obtain ⟨_, _, ⟨T105, L105, k105, n105⟩, -, X105, ⟨Lc105, hQ105, l105, y105, z105⟩, st105⟩ := X19.virtualBack hx (y := (⟨"java/util/ArrayList", "add", "(Ljava/lang/Object;)Z"⟩ : MethodName)) (z := (⟨"java/util/ArrayList", "add", "(Ljava/lang/Object;)Z"⟩ : MethodName)) hown (mvT hZ (hw _ (List.mem_of_getElem? (i := 59) rfl))) (mvT hZ (hw _ (List.mem_of_getElem? (i := 60) rfl))) (notFace_of_selects (args := #[]) (mvT hZ (hw _ (List.mem_of_getElem? (i := 62) rfl)))) (mvT hZ (hw _ (List.mem_of_getElem? (i := 62) rfl))) (mvT hZ (hw _ (List.mem_of_getElem? (i := 61) rfl))) (by decide) (backOf (W := 0) (own_add1 l Z a0 hw [] b13 sg1 sg5 ((0 : Int32) + (1 : Int32)) br17 kr17 h19 n0 Zs106 ((A13.keep K15).keep K19) P18_0 P18_1 P18_2 ge_b13 P18_4 P18_5 ge_br17 (Nat.ne_of_lt (Nat.lt_of_lt_of_le (Exa.lt (A13.keep K15)) P18_3)) (((Exa.ext E13 (P6_0.keep K11)).keep K15).keep K19)) hZ (hw _ (List.mem_of_getElem? (i := 63) rfl)) (hw _ (List.mem_of_getElem? (i := 37) rfl)) (by decide) (by decide)) q105a q105c (g := (mkF m 55 #[.val (.int x0), .val (.int x1), .val (.int x2), .val (.int x3), .val (.int x4), .val (.int (3 : Int32)), .val (.ref sg1), .val (.ref sg5), .val (.ref sg9), .val (.ref b13), .unset, .unset, .unset, .unset, .unset, .unset] [(.ref sg5), (.ref b13)])) rfl (by rw [hml]; rfl) (Steps.refl _) (argsL := [(.ref sg5)]) (rest := []) (lenOf own_pd13 rfl) rfl (by show 2 * 0 + _ ≤ _; exact Nat.le_of_eq rfl) (hb hby at_55) (fun _ _ => ⟨rfl, e19, (by decide : 11 + 0 ≤ _), (by decide : 37 + 0 ≤ _)⟩)
    dsimp only [Pt.U, Pt.locs, Pt.cells, Pt.slots] at X105 l105 y105 z105 st105 hQ105
    subst l105 y105 z105
    obtain ⟨h105, e105⟩ : ∃ h, T105.heap = h := ⟨_, rfl⟩
    rw [e105] at hQ105
    obtain ⟨rfl, Nq105, K105, P104_0, P104_1, P104_2, P104_3⟩ := hQ105
    have N105 := Fr.app N19 Nq105
    refine own_fs st105 ?_
    show own_G p.tables e below _ (T105.setTop (mkF m 58 #[.val (.int x0), .val (.int x1), .val (.int x2), .val (.int x3), .val (.int x4), .val (.int (3 : Int32)), .val (.ref sg1), .val (.ref sg5), .val (.ref sg9), .val (.ref b13), .unset, .unset, .unset, .unset, .unset, .unset] [(.int (1 : Int32))]))
    refine own_fs (XS.pop X105.here hx rfl (hb hby at_58) rfl rfl (Steps.refl _)) ?_
    show own_G p.tables e below _ (T105.setTop (mkF m 59 #[.val (.int x0), .val (.int x1), .val (.int x2), .val (.int x3), .val (.int x4), .val (.int (3 : Int32)), .val (.ref sg1), .val (.ref sg5), .val (.ref sg9), .val (.ref b13), .unset, .unset, .unset, .unset, .unset, .unset] []))
    refine own_fs (XS.iload X105.here hx rfl (hb hby at_59) rfl (Steps.refl _)) ?_
    show own_G p.tables e below _ (T105.setTop (mkF m 61 #[.val (.int x0), .val (.int x1), .val (.int x2), .val (.int x3), .val (.int x4), .val (.int (3 : Int32)), .val (.ref sg1), .val (.ref sg5), .val (.ref sg9), .val (.ref b13), .unset, .unset, .unset, .unset, .unset, .unset] [(.int (3 : Int32))]))
    refine own_fs (XS.iconst X105.here hx rfl (hb hby at_61) (Steps.refl _)) ?_
    show own_G p.tables e below _ (T105.setTop (mkF m 62 #[.val (.int x0), .val (.int x1), .val (.int x2), .val (.int x3), .val (.int x4), .val (.int (3 : Int32)), .val (.ref sg1), .val (.ref sg5), .val (.ref sg9), .val (.ref b13), .unset, .unset, .unset, .unset, .unset, .unset] [(.int (3 : Int32)), (.int (3 : Int32))]))
    refine own_fs (XS.icmpNo X105.here hx rfl (hb hby at_62) rfl (XT.ii_lt_f (by decide : ¬ ((3 : Int32) < (3 : Int32)))) (Steps.refl _)) ?_
    show own_G p.tables e below _ (T105.setTop (mkF m 65 #[.val (.int x0), .val (.int x1), .val (.int x2), .val (.int x3), .val (.int x4), .val (.int (3 : Int32)), .val (.ref sg1), .val (.ref sg5), .val (.ref sg9), .val (.ref b13), .unset, .unset, .unset, .unset, .unset, .unset] []))
    refine own_fs (XS.aload X105.here hx rfl (hb hby at_65) rfl rfl (Steps.refl _)) ?_
    show own_G p.tables e below _ (T105.setTop (mkF m 67 #[.val (.int x0), .val (.int x1), .val (.int x2), .val (.int x3), .val (.int x4), .val (.int (3 : Int32)), .val (.ref sg1), .val (.ref sg5), .val (.ref sg9), .val (.ref b13), .unset, .unset, .unset, .unset, .unset, .unset] [(.ref b13)]))
    refine own_fs (XS.aload X105.here hx rfl (hb hby at_67) rfl rfl (Steps.refl _)) ?_
    show own_G p.tables e below _ (T105.setTop (mkF m 69 #[.val (.int x0), .val (.int x1), .val (.int x2), .val (.int x3), .val (.int x4), .val (.int (3 : Int32)), .val (.ref sg1), .val (.ref sg5), .val (.ref sg9), .val (.ref b13), .unset, .unset, .unset, .unset, .unset, .unset] [(.ref sg9), (.ref b13)]))
    have Zs109 : n0 ≤ h105.size := (Nat.le_trans (Nat.le_trans (Nat.le_trans (Nat.le_trans (Nat.le_trans (Nat.le_trans (Nat.le_trans Z0 K3.1) K7.1) K11.1) E13.1) K15.1) K19.1) K105.1)
    obtain ⟨cq108, kq108, q108a, q108b, q108c⟩ := isOf hZ e105 (((A13.keep K15).keep K19).keep K105)
    obtain ⟨_, _, ⟨T108, L108, k108, n108⟩, -, X108, ⟨Lc108, hQ108, l108, y108, z108⟩, st108⟩ := X105.virtualBack hx (y := (⟨"java/util/ArrayList", "add", "(Ljava/lang/Object;)Z"⟩ : MethodName)) (z := (⟨"java/util/ArrayList", "add", "(Ljava/lang/Object;)Z"⟩ : MethodName)) hown (mvT hZ (hw _ (List.mem_of_getElem? (i := 59) rfl))) (mvT hZ (hw _ (List.mem_of_getElem? (i := 60) rfl))) (notFace_of_selects (args := #[]) (mvT hZ (hw _ (List.mem_of_getElem? (i := 62) rfl)))) (mvT hZ (hw _ (List.mem_of_getElem? (i := 62) rfl))) (mvT hZ (hw _ (List.mem_of_getElem? (i := 61) rfl))) (by decide) (backOf (W := 0) (own_add2 l Z a0 hw [] b13 sg1 sg5 sg9 (((0 : Int32) + (1 : Int32)) + (1 : Int32)) br17 kr17 h105 n0 Zs109 (((A13.keep K15).keep K19).keep K105) P104_0 P104_1 P104_2 ge_b13 P104_3 P18_5 ge_br17 (Nat.ne_of_lt (Nat.lt_of_lt_of_le (Exa.lt (A13.keep K15)) P18_3)) ((((Exa.ext E13 P10_0).keep K15).keep K19).keep K105)) hZ (hw _ (List.mem_of_getElem? (i := 63) rfl)) (hw _ (List.mem_of_getElem? (i := 37) rfl)) (by decide) (by decide)) q108a q108c (g := (mkF m 69 #[.val (.int x0), .val (.int x1), .val (.int x2), .val (.int x3), .val (.int x4), .val (.int (3 : Int32)), .val (.ref sg1), .val (.ref sg5), .val (.ref sg9), .val (.ref b13), .unset, .unset, .unset, .unset, .unset, .unset] [(.ref sg9), (.ref b13)])) rfl (by rw [hml]; rfl) (Steps.refl _) (argsL := [(.ref sg9)]) (rest := []) (lenOf own_pd13 rfl) rfl (by show 2 * 0 + _ ≤ _; exact Nat.le_of_eq rfl) (hb hby at_69) (fun _ _ => ⟨rfl, e105, (by decide : 11 + 0 ≤ _), (by decide : 37 + 0 ≤ _)⟩)
    dsimp only [Pt.U, Pt.locs, Pt.cells, Pt.slots] at X108 l108 y108 z108 st108 hQ108
    subst l108 y108 z108
    obtain ⟨h108, e108⟩ : ∃ h, T108.heap = h := ⟨_, rfl⟩
    rw [e108] at hQ108
    obtain ⟨rfl, Nq108, K108, P107_0, P107_1, P107_2, P107_3⟩ := hQ108
    have N108 := Fr.app N105 Nq108
    refine own_fs st108 ?_
    show own_G p.tables e below _ (T108.setTop (mkF m 72 #[.val (.int x0), .val (.int x1), .val (.int x2), .val (.int x3), .val (.int x4), .val (.int (3 : Int32)), .val (.ref sg1), .val (.ref sg5), .val (.ref sg9), .val (.ref b13), .unset, .unset, .unset, .unset, .unset, .unset] [(.int (1 : Int32))]))
    refine own_fs (XS.pop X108.here hx rfl (hb hby at_72) rfl rfl (Steps.refl _)) ?_
    show own_G p.tables e below _ (T108.setTop (mkF m 73 #[.val (.int x0), .val (.int x1), .val (.int x2), .val (.int x3), .val (.int x4), .val (.int (3 : Int32)), .val (.ref sg1), .val (.ref sg5), .val (.ref sg9), .val (.ref b13), .unset, .unset, .unset, .unset, .unset, .unset] []))
    refine own_fs (XS.iload X108.here hx rfl (hb hby at_73) rfl (Steps.refl _)) ?_
    show own_G p.tables e below _ (T108.setTop (mkF m 75 #[.val (.int x0), .val (.int x1), .val (.int x2), .val (.int x3), .val (.int x4), .val (.int (3 : Int32)), .val (.ref sg1), .val (.ref sg5), .val (.ref sg9), .val (.ref b13), .unset, .unset, .unset, .unset, .unset, .unset] [(.int (3 : Int32))]))
    refine own_fs (XS.iconst X108.here hx rfl (hb hby at_75) (Steps.refl _)) ?_
    show own_G p.tables e below _ (T108.setTop (mkF m 76 #[.val (.int x0), .val (.int x1), .val (.int x2), .val (.int x3), .val (.int x4), .val (.int (3 : Int32)), .val (.ref sg1), .val (.ref sg5), .val (.ref sg9), .val (.ref b13), .unset, .unset, .unset, .unset, .unset, .unset] [(.int (1 : Int32)), (.int (3 : Int32))]))
    refine own_fs (XS.icmpYes X108.here hx rfl (pc0 := 76) (pc' := 86) rfl (hb hby at_76) rfl (XT.ii_ne_t (by decide : ¬ ((3 : Int32) = (1 : Int32)))) (by decide) (by decide) (Steps.refl _)) ?_
    show own_G p.tables e below _ (T108.setTop (mkF m 86 #[.val (.int x0), .val (.int x1), .val (.int x2), .val (.int x3), .val (.int x4), .val (.int (3 : Int32)), .val (.ref sg1), .val (.ref sg5), .val (.ref sg9), .val (.ref b13), .unset, .unset, .unset, .unset, .unset, .unset] []))
    refine own_fs (XS.iload X108.here hx rfl (hb hby at_86) rfl (Steps.refl _)) ?_
    show own_G p.tables e below _ (T108.setTop (mkF m 88 #[.val (.int x0), .val (.int x1), .val (.int x2), .val (.int x3), .val (.int x4), .val (.int (3 : Int32)), .val (.ref sg1), .val (.ref sg5), .val (.ref sg9), .val (.ref b13), .unset, .unset, .unset, .unset, .unset, .unset] [(.int (3 : Int32))]))
    refine own_fs (XS.iconst X108.here hx rfl (hb hby at_88) (Steps.refl _)) ?_
    show own_G p.tables e below _ (T108.setTop (mkF m 89 #[.val (.int x0), .val (.int x1), .val (.int x2), .val (.int x3), .val (.int x4), .val (.int (3 : Int32)), .val (.ref sg1), .val (.ref sg5), .val (.ref sg9), .val (.ref b13), .unset, .unset, .unset, .unset, .unset, .unset] [(.int (2 : Int32)), (.int (3 : Int32))]))
    refine own_fs (XS.icmpYes X108.here hx rfl (pc0 := 89) (pc' := 99) rfl (hb hby at_89) rfl (XT.ii_ne_t (by decide : ¬ ((3 : Int32) = (2 : Int32)))) (by decide) (by decide) (Steps.refl _)) ?_
    show own_G p.tables e below _ (T108.setTop (mkF m 99 #[.val (.int x0), .val (.int x1), .val (.int x2), .val (.int x3), .val (.int x4), .val (.int (3 : Int32)), .val (.ref sg1), .val (.ref sg5), .val (.ref sg9), .val (.ref b13), .unset, .unset, .unset, .unset, .unset, .unset] []))
    refine own_fs (XS.aload X108.here hx rfl (hb hby at_99) rfl rfl (Steps.refl _)) ?_
    show own_G p.tables e below _ (T108.setTop (mkF m 101 #[.val (.int x0), .val (.int x1), .val (.int x2), .val (.int x3), .val (.int x4), .val (.int (3 : Int32)), .val (.ref sg1), .val (.ref sg5), .val (.ref sg9), .val (.ref b13), .unset, .unset, .unset, .unset, .unset, .unset] [(.ref sg9)]))
    refine own_fs (XS.astore X108.here hx rfl (hb hby at_101) rfl rfl (l' := #[.val (.int x0), .val (.int x1), .val (.int x2), .val (.int x3), .val (.int x4), .val (.int (3 : Int32)), .val (.ref sg1), .val (.ref sg5), .val (.ref sg9), .val (.ref b13), .val (.ref sg9), .unset, .unset, .unset, .unset, .unset]) rfl (Steps.refl _)) ?_
    show own_G p.tables e below _ (T108.setTop (mkF m 103 #[.val (.int x0), .val (.int x1), .val (.int x2), .val (.int x3), .val (.int x4), .val (.int (3 : Int32)), .val (.ref sg1), .val (.ref sg5), .val (.ref sg9), .val (.ref b13), .val (.ref sg9), .unset, .unset, .unset, .unset, .unset] []))
    refine own_fs (XS.iload X108.here hx rfl (hb hby at_103) rfl (Steps.refl _)) ?_
    show own_G p.tables e below _ (T108.setTop (mkF m 105 #[.val (.int x0), .val (.int x1), .val (.int x2), .val (.int x3), .val (.int x4), .val (.int (3 : Int32)), .val (.ref sg1), .val (.ref sg5), .val (.ref sg9), .val (.ref b13), .val (.ref sg9), .unset, .unset, .unset, .unset, .unset] [(.int x4)]))
    refine own_fs (XS.iconst X108.here hx rfl (hb hby at_105) (Steps.refl _)) ?_
    show own_G p.tables e below _ (T108.setTop (mkF m 106 #[.val (.int x0), .val (.int x1), .val (.int x2), .val (.int x3), .val (.int x4), .val (.int (3 : Int32)), .val (.ref sg1), .val (.ref sg5), .val (.ref sg9), .val (.ref b13), .val (.ref sg9), .unset, .unset, .unset, .unset, .unset] [(.int (1 : Int32)), (.int x4)]))
    refine own_fs (XS.iand X108.here hx rfl (hb hby at_106) rfl (Steps.refl _)) ?_
    show own_G p.tables e below _ (T108.setTop (mkF m 107 #[.val (.int x0), .val (.int x1), .val (.int x2), .val (.int x3), .val (.int x4), .val (.int (3 : Int32)), .val (.ref sg1), .val (.ref sg5), .val (.ref sg9), .val (.ref b13), .val (.ref sg9), .unset, .unset, .unset, .unset, .unset] [(.int (x4 &&& (1 : Int32)))]))
    by_cases hc107 : (x4 &&& (1 : Int32)) = (0 : Int32)
    · refine own_fs (XS.ifYes X108.here hx rfl (pc0 := 107) (pc' := 114) rfl (hb hby at_107) rfl (XT.i0_eq_t hc107) (by decide) (by decide) (Steps.refl _)) ?_
      show own_G p.tables e below _ (T108.setTop (mkF m 114 #[.val (.int x0), .val (.int x1), .val (.int x2), .val (.int x3), .val (.int x4), .val (.int (3 : Int32)), .val (.ref sg1), .val (.ref sg5), .val (.ref sg9), .val (.ref b13), .val (.ref sg9), .unset, .unset, .unset, .unset, .unset] []))
      refine own_fs (XS.iload X108.here hx rfl (hb hby at_114) rfl (Steps.refl _)) ?_
      show own_G p.tables e below _ (T108.setTop (mkF m 116 #[.val (.int x0), .val (.int x1), .val (.int x2), .val (.int x3), .val (.int x4), .val (.int (3 : Int32)), .val (.ref sg1), .val (.ref sg5), .val (.ref sg9), .val (.ref b13), .val (.ref sg9), .unset, .unset, .unset, .unset, .unset] [(.int x4)]))
      refine own_fs (XS.iconst X108.here hx rfl (hb hby at_116) (Steps.refl _)) ?_
      show own_G p.tables e below _ (T108.setTop (mkF m 117 #[.val (.int x0), .val (.int x1), .val (.int x2), .val (.int x3), .val (.int x4), .val (.int (3 : Int32)), .val (.ref sg1), .val (.ref sg5), .val (.ref sg9), .val (.ref b13), .val (.ref sg9), .unset, .unset, .unset, .unset, .unset] [(.int (1 : Int32)), (.int x4)]))
      refine own_fs (XS.iushr X108.here hx rfl (hb hby at_117) rfl (Steps.refl _)) ?_
      show own_G p.tables e below _ (T108.setTop (mkF m 118 #[.val (.int x0), .val (.int x1), .val (.int x2), .val (.int x3), .val (.int x4), .val (.int (3 : Int32)), .val (.ref sg1), .val (.ref sg5), .val (.ref sg9), .val (.ref b13), .val (.ref sg9), .unset, .unset, .unset, .unset, .unset] [(.int ((x4.toUInt32 >>> ((1 : Int32) &&& 31).toUInt32).toInt32))]))
      refine own_fs (XS.sipush X108.here hx rfl (hb hby at_118) (Steps.refl _)) ?_
      show own_G p.tables e below _ (T108.setTop (mkF m 121 #[.val (.int x0), .val (.int x1), .val (.int x2), .val (.int x3), .val (.int x4), .val (.int (3 : Int32)), .val (.ref sg1), .val (.ref sg5), .val (.ref sg9), .val (.ref b13), .val (.ref sg9), .unset, .unset, .unset, .unset, .unset] [(.int (255 : Int32)), (.int ((x4.toUInt32 >>> ((1 : Int32) &&& 31).toUInt32).toInt32))]))
      refine own_fs (XS.iand X108.here hx rfl (hb hby at_121) rfl (Steps.refl _)) ?_
      show own_G p.tables e below _ (T108.setTop (mkF m 122 #[.val (.int x0), .val (.int x1), .val (.int x2), .val (.int x3), .val (.int x4), .val (.int (3 : Int32)), .val (.ref sg1), .val (.ref sg5), .val (.ref sg9), .val (.ref b13), .val (.ref sg9), .unset, .unset, .unset, .unset, .unset] [(.int (((x4.toUInt32 >>> ((1 : Int32) &&& 31).toUInt32).toInt32) &&& (255 : Int32)))]))
      refine own_fs (XS.i2c X108.here hx rfl (hb hby at_122) rfl (Steps.refl _)) ?_
      show own_G p.tables e below _ (T108.setTop (mkF m 123 #[.val (.int x0), .val (.int x1), .val (.int x2), .val (.int x3), .val (.int x4), .val (.int (3 : Int32)), .val (.ref sg1), .val (.ref sg5), .val (.ref sg9), .val (.ref b13), .val (.ref sg9), .unset, .unset, .unset, .unset, .unset] [(.int ((((x4.toUInt32 >>> ((1 : Int32) &&& 31).toUInt32).toInt32) &&& (255 : Int32)).toUInt32.toUInt16.toUInt32.toInt32))]))
      have Zs113 : n0 ≤ h108.size := (Nat.le_trans (Nat.le_trans (Nat.le_trans (Nat.le_trans (Nat.le_trans (Nat.le_trans (Nat.le_trans (Nat.le_trans Z0 K3.1) K7.1) K11.1) E13.1) K15.1) K19.1) K105.1) K108.1)
      obtain ⟨_, _, ⟨T112, L112, k112, n112⟩, -, X112, ⟨Lc112, hQ112, l112, y112, z112⟩, st112⟩ := Jvm.LawKit.callS X108 hx (y := (⟨"java/lang/String", "valueOf", "(C)Ljava/lang/String;"⟩ : MethodName)) hown (mvT hZ (hw _ (List.mem_of_getElem? (i := 90) rfl))) (mvT hZ (hw _ (List.mem_of_getElem? (i := 91) rfl))) (mvT hZ (hw _ (List.mem_of_getElem? (i := 8) rfl))) (mvT hZ (hw _ (List.mem_of_getElem? (i := 92) rfl))) (by decide) (backOf (W := 0) (own_valueOfC l Z a0 hw [] ((((x4.toUInt32 >>> ((1 : Int32) &&& 31).toUInt32).toInt32) &&& (255 : Int32)).toUInt32.toUInt16.toUInt32.toInt32) cz h108 n0 Zs113 hSc hcz (Old.keep (Old.keep (Old.keep (Old.keep (Old.ext (Old.keep (Old.keep (Old.keep hOld K3 all0) K7 all0) K11 all0) E13) K15 (allS ge_b13 all0)) K19 (allS ge_b13 all0)) K105 (allS ge_b13 (allS ge_br17 all0))) K108 (allS ge_b13 (allS ge_br17 all0))) (own_ch _).2) hZ (hw _ (List.mem_of_getElem? (i := 92) rfl)) (hw _ (List.mem_of_getElem? (i := 8) rfl)) (by decide) (by decide)) (g := (mkF m 123 #[.val (.int x0), .val (.int x1), .val (.int x2), .val (.int x3), .val (.int x4), .val (.int (3 : Int32)), .val (.ref sg1), .val (.ref sg5), .val (.ref sg9), .val (.ref b13), .val (.ref sg9), .unset, .unset, .unset, .unset, .unset] [(.int ((((x4.toUInt32 >>> ((1 : Int32) &&& 31).toUInt32).toInt32) &&& (255 : Int32)).toUInt32.toUInt16.toUInt32.toInt32))])) rfl (by rw [hml]; rfl) (argsL := [(.int ((((x4.toUInt32 >>> ((1 : Int32) &&& 31).toUInt32).toInt32) &&& (255 : Int32)).toUInt32.toUInt16.toUInt32.toInt32))]) (rest := []) (lenOf own_pd14 rfl) rfl (by show 2 * 0 + _ ≤ _; exact Nat.le_of_eq rfl) (hb hby at_123) (fun _ _ => ⟨rfl, e108, (by decide : 11 + 2 ≤ _), (by decide : 37 + 5 ≤ _)⟩)
      dsimp only [Pt.U, Pt.locs, Pt.cells, Pt.slots] at X112 l112 y112 z112 st112 hQ112
      subst l112 y112 z112
      obtain ⟨h112, e112⟩ : ∃ h, T112.heap = h := ⟨_, rfl⟩
      rw [e112] at hQ112
      obtain ⟨sv110, rfl, Nq112, K112, P111_0, P111_1⟩ := hQ112
      have N112 := Fr.app N108 Nq112
      have ge_sv110 : n0 ≤ sv110 := Nat.le_trans (Nat.le_trans (Nat.le_trans (Nat.le_trans (Nat.le_trans (Nat.le_trans (Nat.le_trans (Nat.le_trans (Nat.le_trans Z0 K3.1) K7.1) K11.1) E13.1) K15.1) K19.1) K105.1) K108.1) P111_1
      have gz_sv110 : h0.size ≤ sv110 := Nat.le_trans (Nat.le_trans (Nat.le_trans (Nat.le_trans (Nat.le_trans (Nat.le_trans (Nat.le_trans (Nat.le_trans (Nat.le_trans (Nat.le_refl _) K3.1) K7.1) K11.1) E13.1) K15.1) K19.1) K105.1) K108.1) P111_1
      refine own_fs (st112 _ (Steps.refl _)) ?_
      show own_G p.tables e below _ (T112.setTop (mkF m 126 #[.val (.int x0), .val (.int x1), .val (.int x2), .val (.int x3), .val (.int x4), .val (.int (3 : Int32)), .val (.ref sg1), .val (.ref sg5), .val (.ref sg9), .val (.ref b13), .val (.ref sg9), .unset, .unset, .unset, .unset, .unset] [(.ref sv110)]))
      refine own_fs (XS.astore X112.here hx rfl (hb hby at_126) rfl rfl (l' := #[.val (.int x0), .val (.int x1), .val (.int x2), .val (.int x3), .val (.int x4), .val (.int (3 : Int32)), .val (.ref sg1), .val (.ref sg5), .val (.ref sg9), .val (.ref b13), .val (.ref sg9), .val (.ref sv110), .unset, .unset, .unset, .unset]) rfl (Steps.refl _)) ?_
      show own_G p.tables e below _ (T112.setTop (mkF m 128 #[.val (.int x0), .val (.int x1), .val (.int x2), .val (.int x3), .val (.int x4), .val (.int (3 : Int32)), .val (.ref sg1), .val (.ref sg5), .val (.ref sg9), .val (.ref b13), .val (.ref sg9), .val (.ref sv110), .unset, .unset, .unset, .unset] []))
      refine own_fs (XS.iload X112.here hx rfl (hb hby at_128) rfl (Steps.refl _)) ?_
      show own_G p.tables e below _ (T112.setTop (mkF m 130 #[.val (.int x0), .val (.int x1), .val (.int x2), .val (.int x3), .val (.int x4), .val (.int (3 : Int32)), .val (.ref sg1), .val (.ref sg5), .val (.ref sg9), .val (.ref b13), .val (.ref sg9), .val (.ref sv110), .unset, .unset, .unset, .unset] [(.int x4)]))
      refine own_fs (XS.bipush X112.here hx rfl (hb hby at_130) (Steps.refl _)) ?_
      show own_G p.tables e below _ (T112.setTop (mkF m 132 #[.val (.int x0), .val (.int x1), .val (.int x2), .val (.int x3), .val (.int x4), .val (.int (3 : Int32)), .val (.ref sg1), .val (.ref sg5), .val (.ref sg9), .val (.ref b13), .val (.ref sg9), .val (.ref sv110), .unset, .unset, .unset, .unset] [(.int (9 : Int32)), (.int x4)]))
      refine own_fs (XS.iushr X112.here hx rfl (hb hby at_132) rfl (Steps.refl _)) ?_
      show own_G p.tables e below _ (T112.setTop (mkF m 133 #[.val (.int x0), .val (.int x1), .val (.int x2), .val (.int x3), .val (.int x4), .val (.int (3 : Int32)), .val (.ref sg1), .val (.ref sg5), .val (.ref sg9), .val (.ref b13), .val (.ref sg9), .val (.ref sv110), .unset, .unset, .unset, .unset] [(.int ((x4.toUInt32 >>> ((9 : Int32) &&& 31).toUInt32).toInt32))]))
      refine own_fs (XS.sipush X112.here hx rfl (hb hby at_133) (Steps.refl _)) ?_
      show own_G p.tables e below _ (T112.setTop (mkF m 136 #[.val (.int x0), .val (.int x1), .val (.int x2), .val (.int x3), .val (.int x4), .val (.int (3 : Int32)), .val (.ref sg1), .val (.ref sg5), .val (.ref sg9), .val (.ref b13), .val (.ref sg9), .val (.ref sv110), .unset, .unset, .unset, .unset] [(.int (255 : Int32)), (.int ((x4.toUInt32 >>> ((9 : Int32) &&& 31).toUInt32).toInt32))]))
      refine own_fs (XS.iand X112.here hx rfl (hb hby at_136) rfl (Steps.refl _)) ?_
      show own_G p.tables e below _ (T112.setTop (mkF m 137 #[.val (.int x0), .val (.int x1), .val (.int x2), .val (.int x3), .val (.int x4), .val (.int (3 : Int32)), .val (.ref sg1), .val (.ref sg5), .val (.ref sg9), .val (.ref b13), .val (.ref sg9), .val (.ref sv110), .unset, .unset, .unset, .unset] [(.int (((x4.toUInt32 >>> ((9 : Int32) &&& 31).toUInt32).toInt32) &&& (255 : Int32)))]))
      refine own_fs (XS.i2c X112.here hx rfl (hb hby at_137) rfl (Steps.refl _)) ?_
      show own_G p.tables e below _ (T112.setTop (mkF m 138 #[.val (.int x0), .val (.int x1), .val (.int x2), .val (.int x3), .val (.int x4), .val (.int (3 : Int32)), .val (.ref sg1), .val (.ref sg5), .val (.ref sg9), .val (.ref b13), .val (.ref sg9), .val (.ref sv110), .unset, .unset, .unset, .unset] [(.int ((((x4.toUInt32 >>> ((9 : Int32) &&& 31).toUInt32).toInt32) &&& (255 : Int32)).toUInt32.toUInt16.toUInt32.toInt32))]))
      have Zs117 : n0 ≤ h112.size := (Nat.le_trans (Nat.le_trans (Nat.le_trans (Nat.le_trans (Nat.le_trans (Nat.le_trans (Nat.le_trans (Nat.le_trans (Nat.le_trans Z0 K3.1) K7.1) K11.1) E13.1) K15.1) K19.1) K105.1) K108.1) K112.1)
      obtain ⟨_, _, ⟨T116, L116, k116, n116⟩, -, X116, ⟨Lc116, hQ116, l116, y116, z116⟩, st116⟩ := Jvm.LawKit.callS X112 hx (y := (⟨"java/lang/String", "valueOf", "(C)Ljava/lang/String;"⟩ : MethodName)) hown (mvT hZ (hw _ (List.mem_of_getElem? (i := 90) rfl))) (mvT hZ (hw _ (List.mem_of_getElem? (i := 91) rfl))) (mvT hZ (hw _ (List.mem_of_getElem? (i := 8) rfl))) (mvT hZ (hw _ (List.mem_of_getElem? (i := 92) rfl))) (by decide) (backOf (W := 0) (own_valueOfC l Z a0 hw [] ((((x4.toUInt32 >>> ((9 : Int32) &&& 31).toUInt32).toInt32) &&& (255 : Int32)).toUInt32.toUInt16.toUInt32.toInt32) cz h112 n0 Zs117 hSc hcz (Old.keep (Old.keep (Old.keep (Old.keep (Old.keep (Old.ext (Old.keep (Old.keep (Old.keep hOld K3 all0) K7 all0) K11 all0) E13) K15 (allS ge_b13 all0)) K19 (allS ge_b13 all0)) K105 (allS ge_b13 (allS ge_br17 all0))) K108 (allS ge_b13 (allS ge_br17 all0))) K112 all0) (own_ch _).2) hZ (hw _ (List.mem_of_getElem? (i := 92) rfl)) (hw _ (List.mem_of_getElem? (i := 8) rfl)) (by decide) (by decide)) (g := (mkF m 138 #[.val (.int x0), .val (.int x1), .val (.int x2), .val (.int x3), .val (.int x4), .val (.int (3 : Int32)), .val (.ref sg1), .val (.ref sg5), .val (.ref sg9), .val (.ref b13), .val (.ref sg9), .val (.ref sv110), .unset, .unset, .unset, .unset] [(.int ((((x4.toUInt32 >>> ((9 : Int32) &&& 31).toUInt32).toInt32) &&& (255 : Int32)).toUInt32.toUInt16.toUInt32.toInt32))])) rfl (by rw [hml]; rfl) (argsL := [(.int ((((x4.toUInt32 >>> ((9 : Int32) &&& 31).toUInt32).toInt32) &&& (255 : Int32)).toUInt32.toUInt16.toUInt32.toInt32))]) (rest := []) (lenOf own_pd14 rfl) rfl (by show 2 * 0 + _ ≤ _; exact Nat.le_of_eq rfl) (hb hby at_138) (fun _ _ => ⟨rfl, e112, (by decide : 13 + 2 ≤ _), (by decide : 42 + 5 ≤ _)⟩)
      dsimp only [Pt.U, Pt.locs, Pt.cells, Pt.slots] at X116 l116 y116 z116 st116 hQ116
      subst l116 y116 z116
      obtain ⟨h116, e116⟩ : ∃ h, T116.heap = h := ⟨_, rfl⟩
      rw [e116] at hQ116
      obtain ⟨sv114, rfl, Nq116, K116, P115_0, P115_1⟩ := hQ116
      have N116 := Fr.app N112 Nq116
      have ge_sv114 : n0 ≤ sv114 := Nat.le_trans (Nat.le_trans (Nat.le_trans (Nat.le_trans (Nat.le_trans (Nat.le_trans (Nat.le_trans (Nat.le_trans (Nat.le_trans (Nat.le_trans Z0 K3.1) K7.1) K11.1) E13.1) K15.1) K19.1) K105.1) K108.1) K112.1) P115_1
      have gz_sv114 : h0.size ≤ sv114 := Nat.le_trans (Nat.le_trans (Nat.le_trans (Nat.le_trans (Nat.le_trans (Nat.le_trans (Nat.le_trans (Nat.le_trans (Nat.le_trans (Nat.le_trans (Nat.le_refl _) K3.1) K7.1) K11.1) E13.1) K15.1) K19.1) K105.1) K108.1) K112.1) P115_1
      refine own_fs (st116 _ (Steps.refl _)) ?_
      show own_G p.tables e below _ (T116.setTop (mkF m 141 #[.val (.int x0), .val (.int x1), .val (.int x2), .val (.int x3), .val (.int x4), .val (.int (3 : Int32)), .val (.ref sg1), .val (.ref sg5), .val (.ref sg9), .val (.ref b13), .val (.ref sg9), .val (.ref sv110), .unset, .unset, .unset, .unset] [(.ref sv114)]))
      refine own_fs (XS.astore X116.here hx rfl (hb hby at_141) rfl rfl (l' := #[.val (.int x0), .val (.int x1), .val (.int x2), .val (.int x3), .val (.int x4), .val (.int (3 : Int32)), .val (.ref sg1), .val (.ref sg5), .val (.ref sg9), .val (.ref b13), .val (.ref sg9), .val (.ref sv110), .val (.ref sv114), .unset, .unset, .unset]) rfl (Steps.refl _)) ?_
      show own_G p.tables e below _ (T116.setTop (mkF m 143 #[.val (.int x0), .val (.int x1), .val (.int x2), .val (.int x3), .val (.int x4), .val (.int (3 : Int32)), .val (.ref sg1), .val (.ref sg5), .val (.ref sg9), .val (.ref b13), .val (.ref sg9), .val (.ref sv110), .val (.ref sv114), .unset, .unset, .unset] []))
      refine own_fs (XS.iload X116.here hx rfl (hb hby at_143) rfl (Steps.refl _)) ?_
      show own_G p.tables e below _ (T116.setTop (mkF m 145 #[.val (.int x0), .val (.int x1), .val (.int x2), .val (.int x3), .val (.int x4), .val (.int (3 : Int32)), .val (.ref sg1), .val (.ref sg5), .val (.ref sg9), .val (.ref b13), .val (.ref sg9), .val (.ref sv110), .val (.ref sv114), .unset, .unset, .unset] [(.int x4)]))
      refine own_fs (XS.bipush X116.here hx rfl (hb hby at_145) (Steps.refl _)) ?_
      show own_G p.tables e below _ (T116.setTop (mkF m 147 #[.val (.int x0), .val (.int x1), .val (.int x2), .val (.int x3), .val (.int x4), .val (.int (3 : Int32)), .val (.ref sg1), .val (.ref sg5), .val (.ref sg9), .val (.ref b13), .val (.ref sg9), .val (.ref sv110), .val (.ref sv114), .unset, .unset, .unset] [(.int (17 : Int32)), (.int x4)]))
      refine own_fs (XS.iushr X116.here hx rfl (hb hby at_147) rfl (Steps.refl _)) ?_
      show own_G p.tables e below _ (T116.setTop (mkF m 148 #[.val (.int x0), .val (.int x1), .val (.int x2), .val (.int x3), .val (.int x4), .val (.int (3 : Int32)), .val (.ref sg1), .val (.ref sg5), .val (.ref sg9), .val (.ref b13), .val (.ref sg9), .val (.ref sv110), .val (.ref sv114), .unset, .unset, .unset] [(.int ((x4.toUInt32 >>> ((17 : Int32) &&& 31).toUInt32).toInt32))]))
      refine own_fs (XS.sipush X116.here hx rfl (hb hby at_148) (Steps.refl _)) ?_
      show own_G p.tables e below _ (T116.setTop (mkF m 151 #[.val (.int x0), .val (.int x1), .val (.int x2), .val (.int x3), .val (.int x4), .val (.int (3 : Int32)), .val (.ref sg1), .val (.ref sg5), .val (.ref sg9), .val (.ref b13), .val (.ref sg9), .val (.ref sv110), .val (.ref sv114), .unset, .unset, .unset] [(.int (255 : Int32)), (.int ((x4.toUInt32 >>> ((17 : Int32) &&& 31).toUInt32).toInt32))]))
      refine own_fs (XS.iand X116.here hx rfl (hb hby at_151) rfl (Steps.refl _)) ?_
      show own_G p.tables e below _ (T116.setTop (mkF m 152 #[.val (.int x0), .val (.int x1), .val (.int x2), .val (.int x3), .val (.int x4), .val (.int (3 : Int32)), .val (.ref sg1), .val (.ref sg5), .val (.ref sg9), .val (.ref b13), .val (.ref sg9), .val (.ref sv110), .val (.ref sv114), .unset, .unset, .unset] [(.int (((x4.toUInt32 >>> ((17 : Int32) &&& 31).toUInt32).toInt32) &&& (255 : Int32)))]))
      refine own_fs (XS.i2c X116.here hx rfl (hb hby at_152) rfl (Steps.refl _)) ?_
      show own_G p.tables e below _ (T116.setTop (mkF m 153 #[.val (.int x0), .val (.int x1), .val (.int x2), .val (.int x3), .val (.int x4), .val (.int (3 : Int32)), .val (.ref sg1), .val (.ref sg5), .val (.ref sg9), .val (.ref b13), .val (.ref sg9), .val (.ref sv110), .val (.ref sv114), .unset, .unset, .unset] [(.int ((((x4.toUInt32 >>> ((17 : Int32) &&& 31).toUInt32).toInt32) &&& (255 : Int32)).toUInt32.toUInt16.toUInt32.toInt32))]))
      have Zs121 : n0 ≤ h116.size := (Nat.le_trans (Nat.le_trans (Nat.le_trans (Nat.le_trans (Nat.le_trans (Nat.le_trans (Nat.le_trans (Nat.le_trans (Nat.le_trans (Nat.le_trans Z0 K3.1) K7.1) K11.1) E13.1) K15.1) K19.1) K105.1) K108.1) K112.1) K116.1)
      obtain ⟨_, _, ⟨T120, L120, k120, n120⟩, -, X120, ⟨Lc120, hQ120, l120, y120, z120⟩, st120⟩ := Jvm.LawKit.callS X116 hx (y := (⟨"java/lang/String", "valueOf", "(C)Ljava/lang/String;"⟩ : MethodName)) hown (mvT hZ (hw _ (List.mem_of_getElem? (i := 90) rfl))) (mvT hZ (hw _ (List.mem_of_getElem? (i := 91) rfl))) (mvT hZ (hw _ (List.mem_of_getElem? (i := 8) rfl))) (mvT hZ (hw _ (List.mem_of_getElem? (i := 92) rfl))) (by decide) (backOf (W := 0) (own_valueOfC l Z a0 hw [] ((((x4.toUInt32 >>> ((17 : Int32) &&& 31).toUInt32).toInt32) &&& (255 : Int32)).toUInt32.toUInt16.toUInt32.toInt32) cz h116 n0 Zs121 hSc hcz (Old.keep (Old.keep (Old.keep (Old.keep (Old.keep (Old.keep (Old.ext (Old.keep (Old.keep (Old.keep hOld K3 all0) K7 all0) K11 all0) E13) K15 (allS ge_b13 all0)) K19 (allS ge_b13 all0)) K105 (allS ge_b13 (allS ge_br17 all0))) K108 (allS ge_b13 (allS ge_br17 all0))) K112 all0) K116 all0) (own_ch _).2) hZ (hw _ (List.mem_of_getElem? (i := 92) rfl)) (hw _ (List.mem_of_getElem? (i := 8) rfl)) (by decide) (by decide)) (g := (mkF m 153 #[.val (.int x0), .val (.int x1), .val (.int x2), .val (.int x3), .val (.int x4), .val (.int (3 : Int32)), .val (.ref sg1), .val (.ref sg5), .val (.ref sg9), .val (.ref b13), .val (.ref sg9), .val (.ref sv110), .val (.ref sv114), .unset, .unset, .unset] [(.int ((((x4.toUInt32 >>> ((17 : Int32) &&& 31).toUInt32).toInt32) &&& (255 : Int32)).toUInt32.toUInt16.toUInt32.toInt32))])) rfl (by rw [hml]; rfl) (argsL := [(.int ((((x4.toUInt32 >>> ((17 : Int32) &&& 31).toUInt32).toInt32) &&& (255 : Int32)).toUInt32.toUInt16.toUInt32.toInt32))]) (rest := []) (lenOf own_pd14 rfl) rfl (by show 2 * 0 + _ ≤ _; exact Nat.le_of_eq rfl) (hb hby at_153) (fun _ _ => ⟨rfl, e116, (by decide : 15 + 2 ≤ _), (by decide : 47 + 5 ≤ _)⟩)
      dsimp only [Pt.U, Pt.locs, Pt.cells, Pt.slots] at X120 l120 y120 z120 st120 hQ120
      subst l120 y120 z120
      obtain ⟨h120, e120⟩ : ∃ h, T120.heap = h := ⟨_, rfl⟩
      rw [e120] at hQ120
      obtain ⟨sv118, rfl, Nq120, K120, P119_0, P119_1⟩ := hQ120
      have N120 := Fr.app N116 Nq120
      have ge_sv118 : n0 ≤ sv118 := Nat.le_trans (Nat.le_trans (Nat.le_trans (Nat.le_trans (Nat.le_trans (Nat.le_trans (Nat.le_trans (Nat.le_trans (Nat.le_trans (Nat.le_trans (Nat.le_trans Z0 K3.1) K7.1) K11.1) E13.1) K15.1) K19.1) K105.1) K108.1) K112.1) K116.1) P119_1
      have gz_sv118 : h0.size ≤ sv118 := Nat.le_trans (Nat.le_trans (Nat.le_trans (Nat.le_trans (Nat.le_trans (Nat.le_trans (Nat.le_trans (Nat.le_trans (Nat.le_trans (Nat.le_trans (Nat.le_trans (Nat.le_refl _) K3.1) K7.1) K11.1) E13.1) K15.1) K19.1) K105.1) K108.1) K112.1) K116.1) P119_1
      refine own_fs (st120 _ (Steps.refl _)) ?_
      show own_G p.tables e below _ (T120.setTop (mkF m 156 #[.val (.int x0), .val (.int x1), .val (.int x2), .val (.int x3), .val (.int x4), .val (.int (3 : Int32)), .val (.ref sg1), .val (.ref sg5), .val (.ref sg9), .val (.ref b13), .val (.ref sg9), .val (.ref sv110), .val (.ref sv114), .unset, .unset, .unset] [(.ref sv118)]))
      refine own_fs (XS.astore X120.here hx rfl (hb hby at_156) rfl rfl (l' := #[.val (.int x0), .val (.int x1), .val (.int x2), .val (.int x3), .val (.int x4), .val (.int (3 : Int32)), .val (.ref sg1), .val (.ref sg5), .val (.ref sg9), .val (.ref b13), .val (.ref sg9), .val (.ref sv110), .val (.ref sv114), .val (.ref sv118), .unset, .unset]) rfl (Steps.refl _)) ?_
      show own_G p.tables e below _ (T120.setTop (mkF m 158 #[.val (.int x0), .val (.int x1), .val (.int x2), .val (.int x3), .val (.int x4), .val (.int (3 : Int32)), .val (.ref sg1), .val (.ref sg5), .val (.ref sg9), .val (.ref b13), .val (.ref sg9), .val (.ref sv110), .val (.ref sv114), .val (.ref sv118), .unset, .unset] []))
      obtain ⟨T122, h122, X122, e122, E122, A122, D122, -, st122⟩ := newO X120 hx hZ hown (hw _ (List.mem_of_getElem? (i := 104) rfl)) (hw _ (List.mem_of_getElem? (i := 105) rfl)) (hw _ (List.mem_of_getElem? (i := 106) rfl)) e120 (g := (mkF m 158 #[.val (.int x0), .val (.int x1), .val (.int x2), .val (.int x3), .val (.int x4), .val (.int (3 : Int32)), .val (.ref sg1), .val (.ref sg5), .val (.ref sg9), .val (.ref b13), .val (.ref sg9), .val (.ref sv110), .val (.ref sv114), .val (.ref sv118), .unset, .unset] [])) rfl (hb hby at_158) (by decide) (by decide)
      obtain ⟨b122, g122⟩ : ∃ z, z = h120.size := ⟨_, rfl⟩
      rw [← g122] at A122 D122 st122
      have ge_b122 : n0 ≤ b122 := Nat.le_trans (Nat.le_trans (Nat.le_trans (Nat.le_trans (Nat.le_trans (Nat.le_trans (Nat.le_trans (Nat.le_trans (Nat.le_trans (Nat.le_trans (Nat.le_trans (Nat.le_trans Z0 K3.1) K7.1) K11.1) E13.1) K15.1) K19.1) K105.1) K108.1) K112.1) K116.1) K120.1) (Nat.le_of_eq g122.symm)
      have gz_b122 : h0.size ≤ b122 := Nat.le_trans (Nat.le_trans (Nat.le_trans (Nat.le_trans (Nat.le_trans (Nat.le_trans (Nat.le_trans (Nat.le_trans (Nat.le_trans (Nat.le_trans (Nat.le_trans (Nat.le_trans (Nat.le_refl _) K3.1) K7.1) K11.1) E13.1) K15.1) K19.1) K105.1) K108.1) K112.1) K116.1) K120.1) (Nat.le_of_eq g122.symm)
      have F_version_b122 : Fld Z h122 b122 "com/example/corbelpath/corbelpath/Deployment$Target" "version" "Ljava/lang/String;" .null := D122 (Or.inr (hw _ (List.mem_of_getElem? (i := 117) rfl))) (ty := (.object "java/lang/String")) (by decide)
      have F_locale_b122 : Fld Z h122 b122 "com/example/corbelpath/corbelpath/Deployment$Target" "locale" "Ljava/lang/String;" .null := D122 (Or.inr (hw _ (List.mem_of_getElem? (i := 119) rfl))) (ty := (.object "java/lang/String")) (by decide)
      have F_library_b122 : Fld Z h122 b122 "com/example/corbelpath/corbelpath/Deployment$Target" "library" "Ljava/lang/String;" .null := D122 (Or.inr (hw _ (List.mem_of_getElem? (i := 121) rfl))) (ty := (.object "java/lang/String")) (by decide)
      have F_path_b122 : Fld Z h122 b122 "com/example/corbelpath/corbelpath/Deployment$Target" "path" "Ljava/util/List;" .null := D122 (Or.inr (hw _ (List.mem_of_getElem? (i := 123) rfl))) (ty := (.object "java/util/List")) (by decide)
      refine own_fs (st122 _ (Steps.refl _)) ?_
      show own_G p.tables e below _ (T122.setTop (mkF m 161 #[.val (.int x0), .val (.int x1), .val (.int x2), .val (.int x3), .val (.int x4), .val (.int (3 : Int32)), .val (.ref sg1), .val (.ref sg5), .val (.ref sg9), .val (.ref b13), .val (.ref sg9), .val (.ref sv110), .val (.ref sv114), .val (.ref sv118), .unset, .unset] [(.ref b122)]))
      refine own_fs (XS.dup X122.here hx rfl (hb hby at_161) rfl rfl (Steps.refl _)) ?_
      show own_G p.tables e below _ (T122.setTop (mkF m 162 #[.val (.int x0), .val (.int x1), .val (.int x2), .val (.int x3), .val (.int x4), .val (.int (3 : Int32)), .val (.ref sg1), .val (.ref sg5), .val (.ref sg9), .val (.ref b13), .val (.ref sg9), .val (.ref sv110), .val (.ref sv114), .val (.ref sv118), .unset, .unset] [(.ref b122), (.ref b122)]))
      refine own_fs (XS.aload X122.here hx rfl (hb hby at_162) rfl rfl (Steps.refl _)) ?_
      show own_G p.tables e below _ (T122.setTop (mkF m 164 #[.val (.int x0), .val (.int x1), .val (.int x2), .val (.int x3), .val (.int x4), .val (.int (3 : Int32)), .val (.ref sg1), .val (.ref sg5), .val (.ref sg9), .val (.ref b13), .val (.ref sg9), .val (.ref sv110), .val (.ref sv114), .val (.ref sv118), .unset, .unset] [(.ref sv114), (.ref b122), (.ref b122)]))
      refine own_fs (XS.aload X122.here hx rfl (hb hby at_164) rfl rfl (Steps.refl _)) ?_
      show own_G p.tables e below _ (T122.setTop (mkF m 166 #[.val (.int x0), .val (.int x1), .val (.int x2), .val (.int x3), .val (.int x4), .val (.int (3 : Int32)), .val (.ref sg1), .val (.ref sg5), .val (.ref sg9), .val (.ref b13), .val (.ref sg9), .val (.ref sv110), .val (.ref sv114), .val (.ref sv118), .unset, .unset] [(.ref sv110), (.ref sv114), (.ref b122), (.ref b122)]))
      refine own_fs (XS.aload X122.here hx rfl (hb hby at_166) rfl rfl (Steps.refl _)) ?_
      show own_G p.tables e below _ (T122.setTop (mkF m 168 #[.val (.int x0), .val (.int x1), .val (.int x2), .val (.int x3), .val (.int x4), .val (.int (3 : Int32)), .val (.ref sg1), .val (.ref sg5), .val (.ref sg9), .val (.ref b13), .val (.ref sg9), .val (.ref sv110), .val (.ref sv114), .val (.ref sv118), .unset, .unset] [(.ref sv118), (.ref sv110), (.ref sv114), (.ref b122), (.ref b122)]))
      refine own_fs (XS.aload X122.here hx rfl (hb hby at_168) rfl rfl (Steps.refl _)) ?_
      show own_G p.tables e below _ (T122.setTop (mkF m 170 #[.val (.int x0), .val (.int x1), .val (.int x2), .val (.int x3), .val (.int x4), .val (.int (3 : Int32)), .val (.ref sg1), .val (.ref sg5), .val (.ref sg9), .val (.ref b13), .val (.ref sg9), .val (.ref sv110), .val (.ref sv114), .val (.ref sv118), .unset, .unset] [(.ref b13), (.ref sv118), (.ref sv110), (.ref sv114), (.ref b122), (.ref b122)]))
      have Zs125 : n0 ≤ h122.size := (Nat.le_trans (Nat.le_trans (Nat.le_trans (Nat.le_trans (Nat.le_trans (Nat.le_trans (Nat.le_trans (Nat.le_trans (Nat.le_trans (Nat.le_trans (Nat.le_trans (Nat.le_trans Z0 K3.1) K7.1) K11.1) E13.1) K15.1) K19.1) K105.1) K108.1) K112.1) K116.1) K120.1) E122.1)
      obtain ⟨_, _, ⟨T124, L124, k124, n124⟩, -, X124, ⟨Lc124, hQ124, l124, y124, z124⟩, st124⟩ := X122.specialBack hx (y := (⟨"com/example/corbelpath/corbelpath/Deployment$Target", "<init>", "(Ljava/lang/String;Ljava/lang/String;Ljava/lang/String;Ljava/util/List;)V"⟩ : MethodName)) rfl hown (mvT hZ (hw _ (List.mem_of_getElem? (i := 107) rfl))) (mvT hZ (hw _ (List.mem_of_getElem? (i := 108) rfl))) (mvT hZ (hw _ (List.mem_of_getElem? (i := 109) rfl))) (by decide) (backOf (W := 1) (own_i_Target0 l Z a0 hw [] b122 sv114 sv110 sv118 b13 (.null) (.null) (.null) (.null) h122 n0 Zs125 A122 F_version_b122 F_locale_b122 F_library_b122 F_path_b122 ge_b122) hZ (hw _ (List.mem_of_getElem? (i := 109) rfl)) (hw _ (List.mem_of_getElem? (i := 106) rfl)) (by decide) (by decide)) (g := (mkF m 170 #[.val (.int x0), .val (.int x1), .val (.int x2), .val (.int x3), .val (.int x4), .val (.int (3 : Int32)), .val (.ref sg1), .val (.ref sg5), .val (.ref sg9), .val (.ref b13), .val (.ref sg9), .val (.ref sv110), .val (.ref sv114), .val (.ref sv118), .unset, .unset] [(.ref b13), (.ref sv118), (.ref sv110), (.ref sv114), (.ref b122), (.ref b122)])) rfl (by rw [hml]; rfl) (Steps.refl _) (a := b122) (argsL := [(.ref sv114), (.ref sv110), (.ref sv118), (.ref b13)]) (rest := [(.ref b122)]) (lenOf own_pd15 rfl) rfl (by show 2 * 0 + _ ≤ _; exact Nat.le_of_eq rfl) (hb hby at_170) (fun _ _ => ⟨rfl, e122, (by decide : 18 + 0 ≤ _), (by decide : 56 + 0 ≤ _)⟩)
      dsimp only [Pt.U, Pt.locs, Pt.cells, Pt.slots] at X124 l124 y124 z124 st124 hQ124
      subst l124 y124 z124
      obtain ⟨h124, e124⟩ : ∃ h, T124.heap = h := ⟨_, rfl⟩
      rw [e124] at hQ124
      obtain ⟨rfl, Nq124, K124, P123_0⟩ := hQ124
      have N124 := Fr.app N120 Nq124
      refine own_fs st124 ?_
      show own_G p.tables e below _ (T124.setTop (mkF m 173 #[.val (.int x0), .val (.int x1), .val (.int x2), .val (.int x3), .val (.int x4), .val (.int (3 : Int32)), .val (.ref sg1), .val (.ref sg5), .val (.ref sg9), .val (.ref b13), .val (.ref sg9), .val (.ref sv110), .val (.ref sv114), .val (.ref sv118), .unset, .unset] [(.ref b122)]))
      refine own_fs (XS.astore X124.here hx rfl (hb hby at_173) rfl rfl (l' := #[.val (.int x0), .val (.int x1), .val (.int x2), .val (.int x3), .val (.int x4), .val (.int (3 : Int32)), .val (.ref sg1), .val (.ref sg5), .val (.ref sg9), .val (.ref b13), .val (.ref sg9), .val (.ref sv110), .val (.ref sv114), .val (.ref sv118), .val (.ref b122), .unset]) rfl (Steps.refl _)) ?_
      show own_G p.tables e below _ (T124.setTop (mkF m 175 #[.val (.int x0), .val (.int x1), .val (.int x2), .val (.int x3), .val (.int x4), .val (.int (3 : Int32)), .val (.ref sg1), .val (.ref sg5), .val (.ref sg9), .val (.ref b13), .val (.ref sg9), .val (.ref sv110), .val (.ref sv114), .val (.ref sv118), .val (.ref b122), .unset] []))
      refine own_fs (XS.aload X124.here hx rfl (hb hby at_175) rfl rfl (Steps.refl _)) ?_
      show own_G p.tables e below _ (T124.setTop (mkF m 177 #[.val (.int x0), .val (.int x1), .val (.int x2), .val (.int x3), .val (.int x4), .val (.int (3 : Int32)), .val (.ref sg1), .val (.ref sg5), .val (.ref sg9), .val (.ref b13), .val (.ref sg9), .val (.ref sv110), .val (.ref sv114), .val (.ref sv118), .val (.ref b122), .unset] [(.ref b122)]))
      have Zs128 : n0 ≤ h124.size := (Nat.le_trans (Nat.le_trans (Nat.le_trans (Nat.le_trans (Nat.le_trans (Nat.le_trans (Nat.le_trans (Nat.le_trans (Nat.le_trans (Nat.le_trans (Nat.le_trans (Nat.le_trans (Nat.le_trans Z0 K3.1) K7.1) K11.1) E13.1) K15.1) K19.1) K105.1) K108.1) K112.1) K116.1) K120.1) E122.1) K124.1)
      obtain ⟨cq127, kq127, q127a, q127b, q127c⟩ := isOf hZ e124 (A122.keep K124)
      obtain ⟨_, _, ⟨T127, L127, k127, n127⟩, -, X127, ⟨Lc127, hQ127, l127, y127, z127⟩, st127⟩ := X124.virtualBack hx (y := (⟨"com/example/corbelpath/corbelpath/Deployment$Target", "fileName", "()Ljava/lang/String;"⟩ : MethodName)) (z := (⟨"com/example/corbelpath/corbelpath/Deployment$Target", "fileName", "()Ljava/lang/String;"⟩ : MethodName)) hown (mvT hZ (hw _ (List.mem_of_getElem? (i := 124) rfl))) (mvT hZ (hw _ (List.mem_of_getElem? (i := 125) rfl))) (notFace_of_selects (args := #[]) (mvT hZ (hw _ (List.mem_of_getElem? (i := 127) rfl)))) (mvT hZ (hw _ (List.mem_of_getElem? (i := 127) rfl))) (mvT hZ (hw _ (List.mem_of_getElem? (i := 126) rfl))) (by decide) (backOf (W := 0) (own_fname3 l Z a0 hw [] b122 b13 sg1 sg5 sg9 br17 kr17 h124 n0 Zs128 P123_0 ((Exa.ext E122 (((((((A13.keep K15).keep K19).keep K105).keep K108).keep K112).keep K116).keep K120)).keep K124) ((Fld.ext E122 (((P107_2.keep K112 nin0).keep K116 nin0).keep K120 nin0)).keep K124 (ninS (Nat.ne_of_lt (Nat.lt_of_lt_of_le (Exa.lt (((((((A13.keep K15).keep K19).keep K105).keep K108).keep K112).keep K116).keep K120)) (Nat.le_of_eq g122.symm))) nin0)) ((Fld.ext E122 (((P107_1.keep K112 nin0).keep K116 nin0).keep K120 nin0)).keep K124 (ninS (Nat.ne_of_lt (Nat.lt_of_lt_of_le (Exa.lt (((((((A13.keep K15).keep K19).keep K105).keep K108).keep K112).keep K116).keep K120)) (Nat.le_of_eq g122.symm))) nin0)) (((((P107_3.keep K112 nin0).keep K116 nin0).keep K120 nin0).ext E122).keep K124 (ninS (Nat.ne_of_lt (Nat.lt_of_lt_of_le (Arv.lt (((P107_3.keep K112 nin0).keep K116 nin0).keep K120 nin0)) (Nat.le_of_eq g122.symm))) nin0)) ((Exa.ext E122 ((((((((Exa.ext E13 P10_0).keep K15).keep K19).keep K105).keep K108).keep K112).keep K116).keep K120)).keep K124)) hZ (hw _ (List.mem_of_getElem? (i := 128) rfl)) (hw _ (List.mem_of_getElem? (i := 106) rfl)) (by decide) (by decide)) q127a q127c (g := (mkF m 177 #[.val (.int x0), .val (.int x1), .val (.int x2), .val (.int x3), .val (.int x4), .val (.int (3 : Int32)), .val (.ref sg1), .val (.ref sg5), .val (.ref sg9), .val (.ref b13), .val (.ref sg9), .val (.ref sv110), .val (.ref sv114), .val (.ref sv118), .val (.ref b122), .unset] [(.ref b122)])) rfl (by rw [hml]; rfl) (Steps.refl _) (argsL := []) (rest := []) (lenOf own_pd16 rfl) rfl (by show 2 * 0 + _ ≤ _; exact Nat.le_of_eq rfl) (hb hby at_177) (fun _ _ => ⟨rfl, e124, (by decide : 18 + 0 ≤ _), (by decide : 56 + 0 ≤ _)⟩)
      dsimp only [Pt.U, Pt.locs, Pt.cells, Pt.slots] at X127 l127 y127 z127 st127 hQ127
      subst l127 y127 z127
      obtain ⟨rfl, Nq127, e127⟩ := hQ127
      have N127 := Fr.app N124 Nq127
      refine own_fs st127 ?_
      show own_G p.tables e below _ (T127.setTop (mkF m 180 #[.val (.int x0), .val (.int x1), .val (.int x2), .val (.int x3), .val (.int x4), .val (.int (3 : Int32)), .val (.ref sg1), .val (.ref sg5), .val (.ref sg9), .val (.ref b13), .val (.ref sg9), .val (.ref sv110), .val (.ref sv114), .val (.ref sv118), .val (.ref b122), .unset] [(.ref sg9)]))
      refine own_fs (XS.astore X127.here hx rfl (hb hby at_180) rfl rfl (l' := #[.val (.int x0), .val (.int x1), .val (.int x2), .val (.int x3), .val (.int x4), .val (.int (3 : Int32)), .val (.ref sg1), .val (.ref sg5), .val (.ref sg9), .val (.ref b13), .val (.ref sg9), .val (.ref sv110), .val (.ref sv114), .val (.ref sv118), .val (.ref b122), .val (.ref sg9)]) rfl (Steps.refl _)) ?_
      show own_G p.tables e below _ (T127.setTop (mkF m 182 #[.val (.int x0), .val (.int x1), .val (.int x2), .val (.int x3), .val (.int x4), .val (.int (3 : Int32)), .val (.ref sg1), .val (.ref sg5), .val (.ref sg9), .val (.ref b13), .val (.ref sg9), .val (.ref sv110), .val (.ref sv114), .val (.ref sv118), .val (.ref b122), .val (.ref sg9)] []))
      refine own_fs (XS.aload X127.here hx rfl (hb hby at_182) rfl rfl (Steps.refl _)) ?_
      show own_G p.tables e below _ (T127.setTop (mkF m 184 #[.val (.int x0), .val (.int x1), .val (.int x2), .val (.int x3), .val (.int x4), .val (.int (3 : Int32)), .val (.ref sg1), .val (.ref sg5), .val (.ref sg9), .val (.ref b13), .val (.ref sg9), .val (.ref sv110), .val (.ref sv114), .val (.ref sv118), .val (.ref b122), .val (.ref sg9)] [(.ref sg9)]))
      refine own_fs (XS.ifnullNo X127.here hx rfl (hb hby at_184) rfl (Steps.refl _)) ?_
      show own_G p.tables e below _ (T127.setTop (mkF m 187 #[.val (.int x0), .val (.int x1), .val (.int x2), .val (.int x3), .val (.int x4), .val (.int (3 : Int32)), .val (.ref sg1), .val (.ref sg5), .val (.ref sg9), .val (.ref b13), .val (.ref sg9), .val (.ref sv110), .val (.ref sv114), .val (.ref sv118), .val (.ref b122), .val (.ref sg9)] []))
      refine own_fs (XS.aload X127.here hx rfl (hb hby at_187) rfl rfl (Steps.refl _)) ?_
      show own_G p.tables e below _ (T127.setTop (mkF m 189 #[.val (.int x0), .val (.int x1), .val (.int x2), .val (.int x3), .val (.int x4), .val (.int (3 : Int32)), .val (.ref sg1), .val (.ref sg5), .val (.ref sg9), .val (.ref b13), .val (.ref sg9), .val (.ref sv110), .val (.ref sv114), .val (.ref sv118), .val (.ref b122), .val (.ref sg9)] [(.ref sg9)]))
      refine own_fs (XS.aload X127.here hx rfl (hb hby at_189) rfl rfl (Steps.refl _)) ?_
      show own_G p.tables e below _ (T127.setTop (mkF m 191 #[.val (.int x0), .val (.int x1), .val (.int x2), .val (.int x3), .val (.int x4), .val (.int (3 : Int32)), .val (.ref sg1), .val (.ref sg5), .val (.ref sg9), .val (.ref b13), .val (.ref sg9), .val (.ref sv110), .val (.ref sv114), .val (.ref sv118), .val (.ref b122), .val (.ref sg9)] [(.ref sg9), (.ref sg9)]))
      have Zs131 : n0 ≤ h124.size := (Nat.le_trans (Nat.le_trans (Nat.le_trans (Nat.le_trans (Nat.le_trans (Nat.le_trans (Nat.le_trans (Nat.le_trans (Nat.le_trans (Nat.le_trans (Nat.le_trans (Nat.le_trans (Nat.le_trans Z0 K3.1) K7.1) K11.1) E13.1) K15.1) K19.1) K105.1) K108.1) K112.1) K116.1) K120.1) E122.1) K124.1)
      obtain ⟨cq130, kq130, q130a, q130b, q130c⟩ := isOf hZ e127 ((Exa.ext E122 ((((((((Exa.ext E13 P10_0).keep K15).keep K19).keep K105).keep K108).keep K112).keep K116).keep K120)).keep K124)
      obtain ⟨_, _, ⟨T130, L130, k130, n130⟩, -, X130, ⟨Lc130, hQ130, l130, y130, z130⟩, st130⟩ := X127.virtualBack hx (y := (⟨"java/lang/String", "equals", "(Ljava/lang/Object;)Z"⟩ : MethodName)) (z := (⟨"java/lang/String", "equals", "(Ljava/lang/Object;)Z"⟩ : MethodName)) hown (mvT hZ (hw _ (List.mem_of_getElem? (i := 160) rfl))) (mvT hZ (hw _ (List.mem_of_getElem? (i := 161) rfl))) (notFace_of_selects (args := #[]) (mvT hZ (hw _ (List.mem_of_getElem? (i := 163) rfl)))) (mvT hZ (hw _ (List.mem_of_getElem? (i := 163) rfl))) (mvT hZ (hw _ (List.mem_of_getElem? (i := 162) rfl))) (by decide) (backOf (W := 0) (own_streq l Z a0 hw [] sg9 h124 n0 Zs131 ) hZ (hw _ (List.mem_of_getElem? (i := 164) rfl)) (hw _ (List.mem_of_getElem? (i := 8) rfl)) (by decide) (by decide)) q130a q130c (g := (mkF m 191 #[.val (.int x0), .val (.int x1), .val (.int x2), .val (.int x3), .val (.int x4), .val (.int (3 : Int32)), .val (.ref sg1), .val (.ref sg5), .val (.ref sg9), .val (.ref b13), .val (.ref sg9), .val (.ref sv110), .val (.ref sv114), .val (.ref sv118), .val (.ref b122), .val (.ref sg9)] [(.ref sg9), (.ref sg9)])) rfl (by rw [hml]; rfl) (Steps.refl _) (argsL := [(.ref sg9)]) (rest := []) (lenOf own_pd13 rfl) rfl (by show 2 * 0 + _ ≤ _; exact Nat.le_of_eq rfl) (hb hby at_191) (fun _ _ => ⟨rfl, e127, (by decide : 18 + 0 ≤ _), (by decide : 56 + 0 ≤ _)⟩)
      dsimp only [Pt.U, Pt.locs, Pt.cells, Pt.slots] at X130 l130 y130 z130 st130 hQ130
      subst l130 y130 z130
      obtain ⟨rfl, Nq130, e130⟩ := hQ130
      have N130 := Fr.app N127 Nq130
      refine own_fs st130 ?_
      show own_G p.tables e below _ (T130.setTop (mkF m 194 #[.val (.int x0), .val (.int x1), .val (.int x2), .val (.int x3), .val (.int x4), .val (.int (3 : Int32)), .val (.ref sg1), .val (.ref sg5), .val (.ref sg9), .val (.ref b13), .val (.ref sg9), .val (.ref sv110), .val (.ref sv114), .val (.ref sv118), .val (.ref b122), .val (.ref sg9)] [(.int (1 : Int32))]))
      refine own_fs (XS.ifNo X130.here hx rfl (hb hby at_194) rfl (XT.i0_eq_f (by decide : ¬ ((1 : Int32) = (0 : Int32)))) (Steps.refl _)) ?_
      show own_G p.tables e below _ (T130.setTop (mkF m 197 #[.val (.int x0), .val (.int x1), .val (.int x2), .val (.int x3), .val (.int x4), .val (.int (3 : Int32)), .val (.ref sg1), .val (.ref sg5), .val (.ref sg9), .val (.ref b13), .val (.ref sg9), .val (.ref sv110), .val (.ref sv114), .val (.ref sv118), .val (.ref b122), .val (.ref sg9)] []))
      refine own_fs (XS.iconst X130.here hx rfl (hb hby at_197) (Steps.refl _)) ?_
      show own_G p.tables e below _ (T130.setTop (mkF m 198 #[.val (.int x0), .val (.int x1), .val (.int x2), .val (.int x3), .val (.int x4), .val (.int (3 : Int32)), .val (.ref sg1), .val (.ref sg5), .val (.ref sg9), .val (.ref b13), .val (.ref sg9), .val (.ref sv110), .val (.ref sv114), .val (.ref sv118), .val (.ref b122), .val (.ref sg9)] [(.int (1 : Int32))]))
      refine own_fs (XS.goto X130.here hx rfl (pc0 := 198) (pc' := 202) rfl (hb hby at_198) (by decide) (by decide) (Steps.refl _)) ?_
      show own_G p.tables e below _ (T130.setTop (mkF m 202 #[.val (.int x0), .val (.int x1), .val (.int x2), .val (.int x3), .val (.int x4), .val (.int (3 : Int32)), .val (.ref sg1), .val (.ref sg5), .val (.ref sg9), .val (.ref b13), .val (.ref sg9), .val (.ref sv110), .val (.ref sv114), .val (.ref sv118), .val (.ref b122), .val (.ref sg9)] [(.int (1 : Int32))]))
      exact own_retN X130 hx (t := .boolean) Bd.returns hlk (by simp) (hb hby at_202) (by decide) (by decide) e130 ⟨rfl, N130⟩
    · refine own_fs (XS.ifNo X108.here hx rfl (hb hby at_107) rfl (XT.i0_eq_f hc107) (Steps.refl _)) ?_
      show own_G p.tables e below _ (T108.setTop (mkF m 110 #[.val (.int x0), .val (.int x1), .val (.int x2), .val (.int x3), .val (.int x4), .val (.int (3 : Int32)), .val (.ref sg1), .val (.ref sg5), .val (.ref sg9), .val (.ref b13), .val (.ref sg9), .unset, .unset, .unset, .unset, .unset] []))
      refine own_fs (XS.aconstNull X108.here hx rfl (hb hby at_110) (Steps.refl _)) ?_
      show own_G p.tables e below _ (T108.setTop (mkF m 111 #[.val (.int x0), .val (.int x1), .val (.int x2), .val (.int x3), .val (.int x4), .val (.int (3 : Int32)), .val (.ref sg1), .val (.ref sg5), .val (.ref sg9), .val (.ref b13), .val (.ref sg9), .unset, .unset, .unset, .unset, .unset] [.null]))
      refine own_fs (XS.goto X108.here hx rfl (pc0 := 111) (pc' := 126) rfl (hb hby at_111) (by decide) (by decide) (Steps.refl _)) ?_
      show own_G p.tables e below _ (T108.setTop (mkF m 126 #[.val (.int x0), .val (.int x1), .val (.int x2), .val (.int x3), .val (.int x4), .val (.int (3 : Int32)), .val (.ref sg1), .val (.ref sg5), .val (.ref sg9), .val (.ref b13), .val (.ref sg9), .unset, .unset, .unset, .unset, .unset] [.null]))
      refine own_fs (XS.astore X108.here hx rfl (hb hby at_126) rfl rfl (l' := #[.val (.int x0), .val (.int x1), .val (.int x2), .val (.int x3), .val (.int x4), .val (.int (3 : Int32)), .val (.ref sg1), .val (.ref sg5), .val (.ref sg9), .val (.ref b13), .val (.ref sg9), .val .null, .unset, .unset, .unset, .unset]) rfl (Steps.refl _)) ?_
      show own_G p.tables e below _ (T108.setTop (mkF m 128 #[.val (.int x0), .val (.int x1), .val (.int x2), .val (.int x3), .val (.int x4), .val (.int (3 : Int32)), .val (.ref sg1), .val (.ref sg5), .val (.ref sg9), .val (.ref b13), .val (.ref sg9), .val .null, .unset, .unset, .unset, .unset] []))
      refine own_fs (XS.iload X108.here hx rfl (hb hby at_128) rfl (Steps.refl _)) ?_
      show own_G p.tables e below _ (T108.setTop (mkF m 130 #[.val (.int x0), .val (.int x1), .val (.int x2), .val (.int x3), .val (.int x4), .val (.int (3 : Int32)), .val (.ref sg1), .val (.ref sg5), .val (.ref sg9), .val (.ref b13), .val (.ref sg9), .val .null, .unset, .unset, .unset, .unset] [(.int x4)]))
      refine own_fs (XS.bipush X108.here hx rfl (hb hby at_130) (Steps.refl _)) ?_
      show own_G p.tables e below _ (T108.setTop (mkF m 132 #[.val (.int x0), .val (.int x1), .val (.int x2), .val (.int x3), .val (.int x4), .val (.int (3 : Int32)), .val (.ref sg1), .val (.ref sg5), .val (.ref sg9), .val (.ref b13), .val (.ref sg9), .val .null, .unset, .unset, .unset, .unset] [(.int (9 : Int32)), (.int x4)]))
      refine own_fs (XS.iushr X108.here hx rfl (hb hby at_132) rfl (Steps.refl _)) ?_
      show own_G p.tables e below _ (T108.setTop (mkF m 133 #[.val (.int x0), .val (.int x1), .val (.int x2), .val (.int x3), .val (.int x4), .val (.int (3 : Int32)), .val (.ref sg1), .val (.ref sg5), .val (.ref sg9), .val (.ref b13), .val (.ref sg9), .val .null, .unset, .unset, .unset, .unset] [(.int ((x4.toUInt32 >>> ((9 : Int32) &&& 31).toUInt32).toInt32))]))
      refine own_fs (XS.sipush X108.here hx rfl (hb hby at_133) (Steps.refl _)) ?_
      show own_G p.tables e below _ (T108.setTop (mkF m 136 #[.val (.int x0), .val (.int x1), .val (.int x2), .val (.int x3), .val (.int x4), .val (.int (3 : Int32)), .val (.ref sg1), .val (.ref sg5), .val (.ref sg9), .val (.ref b13), .val (.ref sg9), .val .null, .unset, .unset, .unset, .unset] [(.int (255 : Int32)), (.int ((x4.toUInt32 >>> ((9 : Int32) &&& 31).toUInt32).toInt32))]))
      refine own_fs (XS.iand X108.here hx rfl (hb hby at_136) rfl (Steps.refl _)) ?_
      show own_G p.tables e below _ (T108.setTop (mkF m 137 #[.val (.int x0), .val (.int x1), .val (.int x2), .val (.int x3), .val (.int x4), .val (.int (3 : Int32)), .val (.ref sg1), .val (.ref sg5), .val (.ref sg9), .val (.ref b13), .val (.ref sg9), .val .null, .unset, .unset, .unset, .unset] [(.int (((x4.toUInt32 >>> ((9 : Int32) &&& 31).toUInt32).toInt32) &&& (255 : Int32)))]))
      refine own_fs (XS.i2c X108.here hx rfl (hb hby at_137) rfl (Steps.refl _)) ?_
      show own_G p.tables e below _ (T108.setTop (mkF m 138 #[.val (.int x0), .val (.int x1), .val (.int x2), .val (.int x3), .val (.int x4), .val (.int (3 : Int32)), .val (.ref sg1), .val (.ref sg5), .val (.ref sg9), .val (.ref b13), .val (.ref sg9), .val .null, .unset, .unset, .unset, .unset] [(.int ((((x4.toUInt32 >>> ((9 : Int32) &&& 31).toUInt32).toInt32) &&& (255 : Int32)).toUInt32.toUInt16.toUInt32.toInt32))]))
      have Zs135 : n0 ≤ h108.size := (Nat.le_trans (Nat.le_trans (Nat.le_trans (Nat.le_trans (Nat.le_trans (Nat.le_trans (Nat.le_trans (Nat.le_trans Z0 K3.1) K7.1) K11.1) E13.1) K15.1) K19.1) K105.1) K108.1)
      obtain ⟨_, _, ⟨T134, L134, k134, n134⟩, -, X134, ⟨Lc134, hQ134, l134, y134, z134⟩, st134⟩ := Jvm.LawKit.callS X108 hx (y := (⟨"java/lang/String", "valueOf", "(C)Ljava/lang/String;"⟩ : MethodName)) hown (mvT hZ (hw _ (List.mem_of_getElem? (i := 90) rfl))) (mvT hZ (hw _ (List.mem_of_getElem? (i := 91) rfl))) (mvT hZ (hw _ (List.mem_of_getElem? (i := 8) rfl))) (mvT hZ (hw _ (List.mem_of_getElem? (i := 92) rfl))) (by decide) (backOf (W := 0) (own_valueOfC l Z a0 hw [] ((((x4.toUInt32 >>> ((9 : Int32) &&& 31).toUInt32).toInt32) &&& (255 : Int32)).toUInt32.toUInt16.toUInt32.toInt32) cz h108 n0 Zs135 hSc hcz (Old.keep (Old.keep (Old.keep (Old.keep (Old.ext (Old.keep (Old.keep (Old.keep hOld K3 all0) K7 all0) K11 all0) E13) K15 (allS ge_b13 all0)) K19 (allS ge_b13 all0)) K105 (allS ge_b13 (allS ge_br17 all0))) K108 (allS ge_b13 (allS ge_br17 all0))) (own_ch _).2) hZ (hw _ (List.mem_of_getElem? (i := 92) rfl)) (hw _ (List.mem_of_getElem? (i := 8) rfl)) (by decide) (by decide)) (g := (mkF m 138 #[.val (.int x0), .val (.int x1), .val (.int x2), .val (.int x3), .val (.int x4), .val (.int (3 : Int32)), .val (.ref sg1), .val (.ref sg5), .val (.ref sg9), .val (.ref b13), .val (.ref sg9), .val .null, .unset, .unset, .unset, .unset] [(.int ((((x4.toUInt32 >>> ((9 : Int32) &&& 31).toUInt32).toInt32) &&& (255 : Int32)).toUInt32.toUInt16.toUInt32.toInt32))])) rfl (by rw [hml]; rfl) (argsL := [(.int ((((x4.toUInt32 >>> ((9 : Int32) &&& 31).toUInt32).toInt32) &&& (255 : Int32)).toUInt32.toUInt16.toUInt32.toInt32))]) (rest := []) (lenOf own_pd14 rfl) rfl (by show 2 * 0 + _ ≤ _; exact Nat.le_of_eq rfl) (hb hby at_138) (fun _ _ => ⟨rfl, e108, (by decide : 11 + 2 ≤ _), (by decide : 37 + 5 ≤ _)⟩)
      dsimp only [Pt.U, Pt.locs, Pt.cells, Pt.slots] at X134 l134 y134 z134 st134 hQ134
      subst l134 y134 z134
      obtain ⟨h134, e134⟩ : ∃ h, T134.heap = h := ⟨_, rfl⟩
      rw [e134] at hQ134
      obtain ⟨sv132, rfl, Nq134, K134, P133_0, P133_1⟩ := hQ134
      have N134 := Fr.app N108 Nq134
      have ge_sv132 : n0 ≤ sv132 := Nat.le_trans (Nat.le_trans (Nat.le_trans (Nat.le_trans (Nat.le_trans (Nat.le_trans (Nat.le_trans (Nat.le_trans (Nat.le_trans Z0 K3.1) K7.1) K11.1) E13.1) K15.1) K19.1) K105.1) K108.1) P133_1
      have gz_sv132 : h0.size ≤ sv132 := Nat.le_trans (Nat.le_trans (Nat.le_trans (Nat.le_trans (Nat.le_trans (Nat.le_trans (Nat.le_trans (Nat.le_trans (Nat.le_trans (Nat.le_refl _) K3.1) K7.1) K11.1) E13.1) K15.1) K19.1) K105.1) K108.1) P133_1
      refine own_fs (st134 _ (Steps.refl _)) ?_
      show own_G p.tables e below _ (T134.setTop (mkF m 141 #[.val (.int x0), .val (.int x1), .val (.int x2), .val (.int x3), .val (.int x4), .val (.int (3 : Int32)), .val (.ref sg1), .val (.ref sg5), .val (.ref sg9), .val (.ref b13), .val (.ref sg9), .val .null, .unset, .unset, .unset, .unset] [(.ref sv132)]))
      refine own_fs (XS.astore X134.here hx rfl (hb hby at_141) rfl rfl (l' := #[.val (.int x0), .val (.int x1), .val (.int x2), .val (.int x3), .val (.int x4), .val (.int (3 : Int32)), .val (.ref sg1), .val (.ref sg5), .val (.ref sg9), .val (.ref b13), .val (.ref sg9), .val .null, .val (.ref sv132), .unset, .unset, .unset]) rfl (Steps.refl _)) ?_
      show own_G p.tables e below _ (T134.setTop (mkF m 143 #[.val (.int x0), .val (.int x1), .val (.int x2), .val (.int x3), .val (.int x4), .val (.int (3 : Int32)), .val (.ref sg1), .val (.ref sg5), .val (.ref sg9), .val (.ref b13), .val (.ref sg9), .val .null, .val (.ref sv132), .unset, .unset, .unset] []))
      refine own_fs (XS.iload X134.here hx rfl (hb hby at_143) rfl (Steps.refl _)) ?_
      show own_G p.tables e below _ (T134.setTop (mkF m 145 #[.val (.int x0), .val (.int x1), .val (.int x2), .val (.int x3), .val (.int x4), .val (.int (3 : Int32)), .val (.ref sg1), .val (.ref sg5), .val (.ref sg9), .val (.ref b13), .val (.ref sg9), .val .null, .val (.ref sv132), .unset, .unset, .unset] [(.int x4)]))
      refine own_fs (XS.bipush X134.here hx rfl (hb hby at_145) (Steps.refl _)) ?_
      show own_G p.tables e below _ (T134.setTop (mkF m 147 #[.val (.int x0), .val (.int x1), .val (.int x2), .val (.int x3), .val (.int x4), .val (.int (3 : Int32)), .val (.ref sg1), .val (.ref sg5), .val (.ref sg9), .val (.ref b13), .val (.ref sg9), .val .null, .val (.ref sv132), .unset, .unset, .unset] [(.int (17 : Int32)), (.int x4)]))
      refine own_fs (XS.iushr X134.here hx rfl (hb hby at_147) rfl (Steps.refl _)) ?_
      show own_G p.tables e below _ (T134.setTop (mkF m 148 #[.val (.int x0), .val (.int x1), .val (.int x2), .val (.int x3), .val (.int x4), .val (.int (3 : Int32)), .val (.ref sg1), .val (.ref sg5), .val (.ref sg9), .val (.ref b13), .val (.ref sg9), .val .null, .val (.ref sv132), .unset, .unset, .unset] [(.int ((x4.toUInt32 >>> ((17 : Int32) &&& 31).toUInt32).toInt32))]))
      refine own_fs (XS.sipush X134.here hx rfl (hb hby at_148) (Steps.refl _)) ?_
      show own_G p.tables e below _ (T134.setTop (mkF m 151 #[.val (.int x0), .val (.int x1), .val (.int x2), .val (.int x3), .val (.int x4), .val (.int (3 : Int32)), .val (.ref sg1), .val (.ref sg5), .val (.ref sg9), .val (.ref b13), .val (.ref sg9), .val .null, .val (.ref sv132), .unset, .unset, .unset] [(.int (255 : Int32)), (.int ((x4.toUInt32 >>> ((17 : Int32) &&& 31).toUInt32).toInt32))]))
      refine own_fs (XS.iand X134.here hx rfl (hb hby at_151) rfl (Steps.refl _)) ?_
      show own_G p.tables e below _ (T134.setTop (mkF m 152 #[.val (.int x0), .val (.int x1), .val (.int x2), .val (.int x3), .val (.int x4), .val (.int (3 : Int32)), .val (.ref sg1), .val (.ref sg5), .val (.ref sg9), .val (.ref b13), .val (.ref sg9), .val .null, .val (.ref sv132), .unset, .unset, .unset] [(.int (((x4.toUInt32 >>> ((17 : Int32) &&& 31).toUInt32).toInt32) &&& (255 : Int32)))]))
      refine own_fs (XS.i2c X134.here hx rfl (hb hby at_152) rfl (Steps.refl _)) ?_
      show own_G p.tables e below _ (T134.setTop (mkF m 153 #[.val (.int x0), .val (.int x1), .val (.int x2), .val (.int x3), .val (.int x4), .val (.int (3 : Int32)), .val (.ref sg1), .val (.ref sg5), .val (.ref sg9), .val (.ref b13), .val (.ref sg9), .val .null, .val (.ref sv132), .unset, .unset, .unset] [(.int ((((x4.toUInt32 >>> ((17 : Int32) &&& 31).toUInt32).toInt32) &&& (255 : Int32)).toUInt32.toUInt16.toUInt32.toInt32))]))
      have Zs139 : n0 ≤ h134.size := (Nat.le_trans (Nat.le_trans (Nat.le_trans (Nat.le_trans (Nat.le_trans (Nat.le_trans (Nat.le_trans (Nat.le_trans (Nat.le_trans Z0 K3.1) K7.1) K11.1) E13.1) K15.1) K19.1) K105.1) K108.1) K134.1)
      obtain ⟨_, _, ⟨T138, L138, k138, n138⟩, -, X138, ⟨Lc138, hQ138, l138, y138, z138⟩, st138⟩ := Jvm.LawKit.callS X134 hx (y := (⟨"java/lang/String", "valueOf", "(C)Ljava/lang/String;"⟩ : MethodName)) hown (mvT hZ (hw _ (List.mem_of_getElem? (i := 90) rfl))) (mvT hZ (hw _ (List.mem_of_getElem? (i := 91) rfl))) (mvT hZ (hw _ (List.mem_of_getElem? (i := 8) rfl))) (mvT hZ (hw _ (List.mem_of_getElem? (i := 92) rfl))) (by decide) (backOf (W := 0) (own_valueOfC l Z a0 hw [] ((((x4.toUInt32 >>> ((17 : Int32) &&& 31).toUInt32).toInt32) &&& (255 : Int32)).toUInt32.toUInt16.toUInt32.toInt32) cz h134 n0 Zs139 hSc hcz (Old.keep (Old.keep (Old.keep (Old.keep (Old.keep (Old.ext (Old.keep (Old.keep (Old.keep hOld K3 all0) K7 all0) K11 all0) E13) K15 (allS ge_b13 all0)) K19 (allS ge_b13 all0)) K105 (allS ge_b13 (allS ge_br17 all0))) K108 (allS ge_b13 (allS ge_br17 all0))) K134 all0) (own_ch _).2) hZ (hw _ (List.mem_of_getElem? (i := 92) rfl)) (hw _ (List.mem_of_getElem? (i := 8) rfl)) (by decide) (by decide)) (g := (mkF m 153 #[.val (.int x0), .val (.int x1), .val (.int x2), .val (.int x3), .val (.int x4), .val (.int (3 : Int32)), .val (.ref sg1), .val (.ref sg5), .val (.ref sg9), .val (.ref b13), .val (.ref sg9), .val .null, .val (.ref sv132), .unset, .unset, .unset] [(.int ((((x4.toUInt32 >>> ((17 : Int32) &&& 31).toUInt32).toInt32) &&& (255 : Int32)).toUInt32.toUInt16.toUInt32.toInt32))])) rfl (by rw [hml]; rfl) (argsL := [(.int ((((x4.toUInt32 >>> ((17 : Int32) &&& 31).toUInt32).toInt32) &&& (255 : Int32)).toUInt32.toUInt16.toUInt32.toInt32))]) (rest := []) (lenOf own_pd14 rfl) rfl (by show 2 * 0 + _ ≤ _; exact Nat.le_of_eq rfl) (hb hby at_153) (fun _ _ => ⟨rfl, e134, (by decide : 13 + 2 ≤ _), (by decide : 42 + 5 ≤ _)⟩)
      dsimp only [Pt.U, Pt.locs, Pt.cells, Pt.slots] at X138 l138 y138 z138 st138 hQ138
      subst l138 y138 z138
      obtain ⟨h138, e138⟩ : ∃ h, T138.heap = h := ⟨_, rfl⟩
      rw [e138] at hQ138
      obtain ⟨sv136, rfl, Nq138, K138, P137_0, P137_1⟩ := hQ138
      have N138 := Fr.app N134 Nq138
      have ge_sv136 : n0 ≤ sv136 := Nat.le_trans (Nat.le_trans (Nat.le_trans (Nat.le_trans (Nat.le_trans (Nat.le_trans (Nat.le_trans (Nat.le_trans (Nat.le_trans (Nat.le_trans Z0 K3.1) K7.1) K11.1) E13.1) K15.1) K19.1) K105.1) K108.1) K134.1) P137_1
      have gz_sv136 : h0.size ≤ sv136 := Nat.le_trans (Nat.le_trans (Nat.le_trans (Nat.le_trans (Nat.le_trans (Nat.le_trans (Nat.le_trans (Nat.le_trans (Nat.le_trans (Nat.le_trans (Nat.le_refl _) K3.1) K7.1) K11.1) E13.1) K15.1) K19.1) K105.1) K108.1) K134.1) P137_1
      refine own_fs (st138 _ (Steps.refl _)) ?_
      show own_G p.tables e below _ (T138.setTop (mkF m 156 #[.val (.int x0), .val (.int x1), .val (.int x2), .val (.int x3), .val (.int x4), .val (.int (3 : Int32)), .val (.ref sg1), .val (.ref sg5), .val (.ref sg9), .val (.ref b13), .val (.ref sg9), .val .null, .val (.ref sv132), .unset, .unset, .unset] [(.ref sv136)]))
      refine own_fs (XS.astore X138.here hx rfl (hb hby at_156) rfl rfl (l' := #[.val (.int x0), .val (.int x1), .val (.int x2), .val (.int x3), .val (.int x4), .val (.int (3 : Int32)), .val (.ref sg1), .val (.ref sg5), .val (.ref sg9), .val (.ref b13), .val (.ref sg9), .val .null, .val (.ref sv132), .val (.ref sv136), .unset, .unset]) rfl (Steps.refl _)) ?_
      show own_G p.tables e below _ (T138.setTop (mkF m 158 #[.val (.int x0), .val (.int x1), .val (.int x2), .val (.int x3), .val (.int x4), .val (.int (3 : Int32)), .val (.ref sg1), .val (.ref sg5), .val (.ref sg9), .val (.ref b13), .val (.ref sg9), .val .null, .val (.ref sv132), .val (.ref sv136), .unset, .unset] []))
      obtain ⟨T140, h140, X140, e140, E140, A140, D140, -, st140⟩ := newO X138 hx hZ hown (hw _ (List.mem_of_getElem? (i := 104) rfl)) (hw _ (List.mem_of_getElem? (i := 105) rfl)) (hw _ (List.mem_of_getElem? (i := 106) rfl)) e138 (g := (mkF m 158 #[.val (.int x0), .val (.int x1), .val (.int x2), .val (.int x3), .val (.int x4), .val (.int (3 : Int32)), .val (.ref sg1), .val (.ref sg5), .val (.ref sg9), .val (.ref b13), .val (.ref sg9), .val .null, .val (.ref sv132), .val (.ref sv136), .unset, .unset] [])) rfl (hb hby at_158) (by decide) (by decide)
      obtain ⟨b140, g140⟩ : ∃ z, z = h138.size := ⟨_, rfl⟩
      rw [← g140] at A140 D140 st140
      have ge_b140 : n0 ≤ b140 := Nat.le_trans (Nat.le_trans (Nat.le_trans (Nat.le_trans (Nat.le_trans (Nat.le_trans (Nat.le_trans (Nat.le_trans (Nat.le_trans (Nat.le_trans (Nat.le_trans Z0 K3.1) K7.1) K11.1) E13.1) K15.1) K19.1) K105.1) K108.1) K134.1) K138.1) (Nat.le_of_eq g140.symm)
      have gz_b140 : h0.size ≤ b140 := Nat.le_trans (Nat.le_trans (Nat.le_trans (Nat.le_trans (Nat.le_trans (Nat.le_trans (Nat.le_trans (Nat.le_trans (Nat.le_trans (Nat.le_trans (Nat.le_trans (Nat.le_refl _) K3.1) K7.1) K11.1) E13.1) K15.1) K19.1) K105.1) K108.1) K134.1) K138.1) (Nat.le_of_eq g140.symm)
      have F_version_b140 : Fld Z h140 b140 "com/example/corbelpath/corbelpath/Deployment$Target" "version" "Ljava/lang/String;" .null := D140 (Or.inr (hw _ (List.mem_of_getElem? (i := 117) rfl))) (ty := (.object "java/lang/String")) (by decide)
      have F_locale_b140 : Fld Z h140 b140 "com/example/corbelpath/corbelpath/Deployment$Target" "locale" "Ljava/lang/String;" .null := D140 (Or.inr (hw _ (List.mem_of_getElem? (i := 119) rfl))) (ty := (.object "java/lang/String")) (by decide)
      have F_library_b140 : Fld Z h140 b140 "com/example/corbelpath/corbelpath/Deployment$Target" "library" "Ljava/lang/String;" .null := D140 (Or.inr (hw _ (List.mem_of_getElem? (i := 121) rfl))) (ty := (.object "java/lang/String")) (by decide)
      have F_path_b140 : Fld Z h140 b140 "com/example/corbelpath/corbelpath/Deployment$Target" "path" "Ljava/util/List;" .null := D140 (Or.inr (hw _ (List.mem_of_getElem? (i := 123) rfl))) (ty := (.object "java/util/List")) (by decide)
      refine own_fs (st140 _ (Steps.refl _)) ?_
      show own_G p.tables e below _ (T140.setTop (mkF m 161 #[.val (.int x0), .val (.int x1), .val (.int x2), .val (.int x3), .val (.int x4), .val (.int (3 : Int32)), .val (.ref sg1), .val (.ref sg5), .val (.ref sg9), .val (.ref b13), .val (.ref sg9), .val .null, .val (.ref sv132), .val (.ref sv136), .unset, .unset] [(.ref b140)]))
      refine own_fs (XS.dup X140.here hx rfl (hb hby at_161) rfl rfl (Steps.refl _)) ?_
      show own_G p.tables e below _ (T140.setTop (mkF m 162 #[.val (.int x0), .val (.int x1), .val (.int x2), .val (.int x3), .val (.int x4), .val (.int (3 : Int32)), .val (.ref sg1), .val (.ref sg5), .val (.ref sg9), .val (.ref b13), .val (.ref sg9), .val .null, .val (.ref sv132), .val (.ref sv136), .unset, .unset] [(.ref b140), (.ref b140)]))
      refine own_fs (XS.aload X140.here hx rfl (hb hby at_162) rfl rfl (Steps.refl _)) ?_
      show own_G p.tables e below _ (T140.setTop (mkF m 164 #[.val (.int x0), .val (.int x1), .val (.int x2), .val (.int x3), .val (.int x4), .val (.int (3 : Int32)), .val (.ref sg1), .val (.ref sg5), .val (.ref sg9), .val (.ref b13), .val (.ref sg9), .val .null, .val (.ref sv132), .val (.ref sv136), .unset, .unset] [(.ref sv132), (.ref b140), (.ref b140)]))
      refine own_fs (XS.aload X140.here hx rfl (hb hby at_164) rfl rfl (Steps.refl _)) ?_
      show own_G p.tables e below _ (T140.setTop (mkF m 166 #[.val (.int x0), .val (.int x1), .val (.int x2), .val (.int x3), .val (.int x4), .val (.int (3 : Int32)), .val (.ref sg1), .val (.ref sg5), .val (.ref sg9), .val (.ref b13), .val (.ref sg9), .val .null, .val (.ref sv132), .val (.ref sv136), .unset, .unset] [.null, (.ref sv132), (.ref b140), (.ref b140)]))
      refine own_fs (XS.aload X140.here hx rfl (hb hby at_166) rfl rfl (Steps.refl _)) ?_
      show own_G p.tables e below _ (T140.setTop (mkF m 168 #[.val (.int x0), .val (.int x1), .val (.int x2), .val (.int x3), .val (.int x4), .val (.int (3 : Int32)), .val (.ref sg1), .val (.ref sg5), .val (.ref sg9), .val (.ref b13), .val (.ref sg9), .val .null, .val (.ref sv132), .val (.ref sv136), .unset, .unset] [(.ref sv136), .null, (.ref sv132), (.ref b140), (.ref b140)]))
      refine own_fs (XS.aload X140.here hx rfl (hb hby at_168) rfl rfl (Steps.refl _)) ?_
      show own_G p.tables e below _ (T140.setTop (mkF m 170 #[.val (.int x0), .val (.int x1), .val (.int x2), .val (.int x3), .val (.int x4), .val (.int (3 : Int32)), .val (.ref sg1), .val (.ref sg5), .val (.ref sg9), .val (.ref b13), .val (.ref sg9), .val .null, .val (.ref sv132), .val (.ref sv136), .unset, .unset] [(.ref b13), (.ref sv136), .null, (.ref sv132), (.ref b140), (.ref b140)]))
      have Zs143 : n0 ≤ h140.size := (Nat.le_trans (Nat.le_trans (Nat.le_trans (Nat.le_trans (Nat.le_trans (Nat.le_trans (Nat.le_trans (Nat.le_trans (Nat.le_trans (Nat.le_trans (Nat.le_trans Z0 K3.1) K7.1) K11.1) E13.1) K15.1) K19.1) K105.1) K108.1) K134.1) K138.1) E140.1)
      obtain ⟨_, _, ⟨T142, L142, k142, n142⟩, -, X142, ⟨Lc142, hQ142, l142, y142, z142⟩, st142⟩ := X140.specialBack hx (y := (⟨"com/example/corbelpath/corbelpath/Deployment$Target", "<init>", "(Ljava/lang/String;Ljava/lang/String;Ljava/lang/String;Ljava/util/List;)V"⟩ : MethodName)) rfl hown (mvT hZ (hw _ (List.mem_of_getElem? (i := 107) rfl))) (mvT hZ (hw _ (List.mem_of_getElem? (i := 108) rfl))) (mvT hZ (hw _ (List.mem_of_getElem? (i := 109) rfl))) (by decide) (backOf (W := 1) (own_i_Target1 l Z a0 hw [] b140 sv132 sv136 b13 (.null) (.null) (.null) (.null) h140 n0 Zs143 A140 F_version_b140 F_locale_b140 F_library_b140 F_path_b140 ge_b140) hZ (hw _ (List.mem_of_getElem? (i := 109) rfl)) (hw _ (List.mem_of_getElem? (i := 106) rfl)) (by decide) (by decide)) (g := (mkF m 170 #[.val (.int x0), .val (.int x1), .val (.int x2), .val (.int x3), .val (.int x4), .val (.int (3 : Int32)), .val (.ref sg1), .val (.ref sg5), .val (.ref sg9), .val (.ref b13), .val (.ref sg9), .val .null, .val (.ref sv132), .val (.ref sv136), .unset, .unset] [(.ref b13), (.ref sv136), .null, (.ref sv132), (.ref b140), (.ref b140)])) rfl (by rw [hml]; rfl) (Steps.refl _) (a := b140) (argsL := [(.ref sv132), .null, (.ref sv136), (.ref b13)]) (rest := [(.ref b140)]) (lenOf own_pd15 rfl) rfl (by show 2 * 0 + _ ≤ _; exact Nat.le_of_eq rfl) (hb hby at_170) (fun _ _ => ⟨rfl, e140, (by decide : 16 + 0 ≤ _), (by decide : 51 + 0 ≤ _)⟩)
      dsimp only [Pt.U, Pt.locs, Pt.cells, Pt.slots] at X142 l142 y142 z142 st142 hQ142
      subst l142 y142 z142
      obtain ⟨h142, e142⟩ : ∃ h, T142.heap = h := ⟨_, rfl⟩
      rw [e142] at hQ142
      obtain ⟨rfl, Nq142, K142, P141_0⟩ := hQ142
      have N142 := Fr.app N138 Nq142
      refine own_fs st142 ?_
      show own_G p.tables e below _ (T142.setTop (mkF m 173 #[.val (.int x0), .val (.int x1), .val (.int x2), .val (.int x3), .val (.int x4), .val (.int (3 : Int32)), .val (.ref sg1), .val (.ref sg5), .val (.ref sg9), .val (.ref b13), .val (.ref sg9), .val .null, .val (.ref sv132), .val (.ref sv136), .unset, .unset] [(.ref b140)]))
      refine own_fs (XS.astore X142.here hx rfl (hb hby at_173) rfl rfl (l' := #[.val (.int x0), .val (.int x1), .val (.int x2), .val (.int x3), .val (.int x4), .val (.int (3 : Int32)), .val (.ref sg1), .val (.ref sg5), .val (.ref sg9), .val (.ref b13), .val (.ref sg9), .val .null, .val (.ref sv132), .val (.ref sv136), .val (.ref b140), .unset]) rfl (Steps.refl _)) ?_
      show own_G p.tables e below _ (T142.setTop (mkF m 175 #[.val (.int x0), .val (.int x1), .val (.int x2), .val (.int x3), .val (.int x4), .val (.int (3 : Int32)), .val (.ref sg1), .val (.ref sg5), .val (.ref sg9), .val (.ref b13), .val (.ref sg9), .val .null, .val (.ref sv132), .val (.ref sv136), .val (.ref b140), .unset] []))
      refine own_fs (XS.aload X142.here hx rfl (hb hby at_175) rfl rfl (Steps.refl _)) ?_
      show own_G p.tables e below _ (T142.setTop (mkF m 177 #[.val (.int x0), .val (.int x1), .val (.int x2), .val (.int x3), .val (.int x4), .val (.int (3 : Int32)), .val (.ref sg1), .val (.ref sg5), .val (.ref sg9), .val (.ref b13), .val (.ref sg9), .val .null, .val (.ref sv132), .val (.ref sv136), .val (.ref b140), .unset] [(.ref b140)]))
      have Zs146 : n0 ≤ h142.size := (Nat.le_trans (Nat.le_trans (Nat.le_trans (Nat.le_trans (Nat.le_trans (Nat.le_trans (Nat.le_trans (Nat.le_trans (Nat.le_trans (Nat.le_trans (Nat.le_trans (Nat.le_trans Z0 K3.1) K7.1) K11.1) E13.1) K15.1) K19.1) K105.1) K108.1) K134.1) K138.1) E140.1) K142.1)
      obtain ⟨cq145, kq145, q145a, q145b, q145c⟩ := isOf hZ e142 (A140.keep K142)
      obtain ⟨_, _, ⟨T145, L145, k145, n145⟩, -, X145, ⟨Lc145, hQ145, l145, y145, z145⟩, st145⟩ := X142.virtualBack hx (y := (⟨"com/example/corbelpath/corbelpath/Deployment$Target", "fileName", "()Ljava/lang/String;"⟩ : MethodName)) (z := (⟨"com/example/corbelpath/corbelpath/Deployment$Target", "fileName", "()Ljava/lang/String;"⟩ : MethodName)) hown (mvT hZ (hw _ (List.mem_of_getElem? (i := 124) rfl))) (mvT hZ (hw _ (List.mem_of_getElem? (i := 125) rfl))) (notFace_of_selects (args := #[]) (mvT hZ (hw _ (List.mem_of_getElem? (i := 127) rfl)))) (mvT hZ (hw _ (List.mem_of_getElem? (i := 127) rfl))) (mvT hZ (hw _ (List.mem_of_getElem? (i := 126) rfl))) (by decide) (backOf (W := 0) (own_fname3 l Z a0 hw [] b140 b13 sg1 sg5 sg9 br17 kr17 h142 n0 Zs146 P141_0 ((Exa.ext E140 ((((((A13.keep K15).keep K19).keep K105).keep K108).keep K134).keep K138)).keep K142) ((Fld.ext E140 ((P107_2.keep K134 nin0).keep K138 nin0)).keep K142 (ninS (Nat.ne_of_lt (Nat.lt_of_lt_of_le (Exa.lt ((((((A13.keep K15).keep K19).keep K105).keep K108).keep K134).keep K138)) (Nat.le_of_eq g140.symm))) nin0)) ((Fld.ext E140 ((P107_1.keep K134 nin0).keep K138 nin0)).keep K142 (ninS (Nat.ne_of_lt (Nat.lt_of_lt_of_le (Exa.lt ((((((A13.keep K15).keep K19).keep K105).keep K108).keep K134).keep K138)) (Nat.le_of_eq g140.symm))) nin0)) ((((P107_3.keep K134 nin0).keep K138 nin0).ext E140).keep K142 (ninS (Nat.ne_of_lt (Nat.lt_of_lt_of_le (Arv.lt ((P107_3.keep K134 nin0).keep K138 nin0)) (Nat.le_of_eq g140.symm))) nin0)) ((Exa.ext E140 (((((((Exa.ext E13 P10_0).keep K15).keep K19).keep K105).keep K108).keep K134).keep K138)).keep K142)) hZ (hw _ (List.mem_of_getElem? (i := 128) rfl)) (hw _ (List.mem_of_getElem? (i := 106) rfl)) (by decide) (by decide)) q145a q145c (g := (mkF m 177 #[.val (.int x0), .val (.int x1), .val (.int x2), .val (.int x3), .val (.int x4), .val (.int (3 : Int32)), .val (.ref sg1), .val (.ref sg5), .val (.ref sg9), .val (.ref b13), .val (.ref sg9), .val .null, .val (.ref sv132), .val (.ref sv136), .val (.ref b140), .unset] [(.ref b140)])) rfl (by rw [hml]; rfl) (Steps.refl _) (argsL := []) (rest := []) (lenOf own_pd16 rfl) rfl (by show 2 * 0 + _ ≤ _; exact Nat.le_of_eq rfl) (hb hby at_177) (fun _ _ => ⟨rfl, e142, (by decide : 16 + 0 ≤ _), (by decide : 51 + 0 ≤ _)⟩)
      dsimp only [Pt.U, Pt.locs, Pt.cells, Pt.slots] at X145 l145 y145 z145 st145 hQ145
      subst l145 y145 z145
      obtain ⟨rfl, Nq145, e145⟩ := hQ145
      have N145 := Fr.app N142 Nq145
      refine own_fs st145 ?_
      show own_G p.tables e below _ (T145.setTop (mkF m 180 #[.val (.int x0), .val (.int x1), .val (.int x2), .val (.int x3), .val (.int x4), .val (.int (3 : Int32)), .val (.ref sg1), .val (.ref sg5), .val (.ref sg9), .val (.ref b13), .val (.ref sg9), .val .null, .val (.ref sv132), .val (.ref sv136), .val (.ref b140), .unset] [(.ref sg9)]))
      refine own_fs (XS.astore X145.here hx rfl (hb hby at_180) rfl rfl (l' := #[.val (.int x0), .val (.int x1), .val (.int x2), .val (.int x3), .val (.int x4), .val (.int (3 : Int32)), .val (.ref sg1), .val (.ref sg5), .val (.ref sg9), .val (.ref b13), .val (.ref sg9), .val .null, .val (.ref sv132), .val (.ref sv136), .val (.ref b140), .val (.ref sg9)]) rfl (Steps.refl _)) ?_
      show own_G p.tables e below _ (T145.setTop (mkF m 182 #[.val (.int x0), .val (.int x1), .val (.int x2), .val (.int x3), .val (.int x4), .val (.int (3 : Int32)), .val (.ref sg1), .val (.ref sg5), .val (.ref sg9), .val (.ref b13), .val (.ref sg9), .val .null, .val (.ref sv132), .val (.ref sv136), .val (.ref b140), .val (.ref sg9)] []))
      refine own_fs (XS.aload X145.here hx rfl (hb hby at_182) rfl rfl (Steps.refl _)) ?_
      show own_G p.tables e below _ (T145.setTop (mkF m 184 #[.val (.int x0), .val (.int x1), .val (.int x2), .val (.int x3), .val (.int x4), .val (.int (3 : Int32)), .val (.ref sg1), .val (.ref sg5), .val (.ref sg9), .val (.ref b13), .val (.ref sg9), .val .null, .val (.ref sv132), .val (.ref sv136), .val (.ref b140), .val (.ref sg9)] [(.ref sg9)]))
      refine own_fs (XS.ifnullNo X145.here hx rfl (hb hby at_184) rfl (Steps.refl _)) ?_
      show own_G p.tables e below _ (T145.setTop (mkF m 187 #[.val (.int x0), .val (.int x1), .val (.int x2), .val (.int x3), .val (.int x4), .val (.int (3 : Int32)), .val (.ref sg1), .val (.ref sg5), .val (.ref sg9), .val (.ref b13), .val (.ref sg9), .val .null, .val (.ref sv132), .val (.ref sv136), .val (.ref b140), .val (.ref sg9)] []))
      refine own_fs (XS.aload X145.here hx rfl (hb hby at_187) rfl rfl (Steps.refl _)) ?_
      show own_G p.tables e below _ (T145.setTop (mkF m 189 #[.val (.int x0), .val (.int x1), .val (.int x2), .val (.int x3), .val (.int x4), .val (.int (3 : Int32)), .val (.ref sg1), .val (.ref sg5), .val (.ref sg9), .val (.ref b13), .val (.ref sg9), .val .null, .val (.ref sv132), .val (.ref sv136), .val (.ref b140), .val (.ref sg9)] [(.ref sg9)]))
      refine own_fs (XS.aload X145.here hx rfl (hb hby at_189) rfl rfl (Steps.refl _)) ?_
      show own_G p.tables e below _ (T145.setTop (mkF m 191 #[.val (.int x0), .val (.int x1), .val (.int x2), .val (.int x3), .val (.int x4), .val (.int (3 : Int32)), .val (.ref sg1), .val (.ref sg5), .val (.ref sg9), .val (.ref b13), .val (.ref sg9), .val .null, .val (.ref sv132), .val (.ref sv136), .val (.ref b140), .val (.ref sg9)] [(.ref sg9), (.ref sg9)]))
      have Zs149 : n0 ≤ h142.size := (Nat.le_trans (Nat.le_trans (Nat.le_trans (Nat.le_trans (Nat.le_trans (Nat.le_trans (Nat.le_trans (Nat.le_trans (Nat.le_trans (Nat.le_trans (Nat.le_trans (Nat.le_trans Z0 K3.1) K7.1) K11.1) E13.1) K15.1) K19.1) K105.1) K108.1) K134.1) K138.1) E140.1) K142.1)
      obtain ⟨cq148, kq148, q148a, q148b, q148c⟩ := isOf hZ e145 ((Exa.ext E140 (((((((Exa.ext E13 P10_0).keep K15).keep K19).keep K105).keep K108).keep K134).keep K138)).keep K142)
      obtain ⟨_, _, ⟨T148, L148, k148, n148⟩, -, X148, ⟨Lc148, hQ148, l148, y148, z148⟩, st148⟩ := X145.virtualBack hx (y := (⟨"java/lang/String", "equals", "(Ljava/lang/Object;)Z"⟩ : MethodName)) (z := (⟨"java/lang/String", "equals", "(Ljava/lang/Object;)Z"⟩ : MethodName)) hown (mvT hZ (hw _ (List.mem_of_getElem? (i := 160) rfl))) (mvT hZ (hw _ (List.mem_of_getElem? (i := 161) rfl))) (notFace_of_selects (args := #[]) (mvT hZ (hw _ (List.mem_of_getElem? (i := 163) rfl)))) (mvT hZ (hw _ (List.mem_of_getElem? (i := 163) rfl))) (mvT hZ (hw _ (List.mem_of_getElem? (i := 162) rfl))) (by decide) (backOf (W := 0) (own_streq l Z a0 hw [] sg9 h142 n0 Zs149 ) hZ (hw _ (List.mem_of_getElem? (i := 164) rfl)) (hw _ (List.mem_of_getElem? (i := 8) rfl)) (by decide) (by decide)) q148a q148c (g := (mkF m 191 #[.val (.int x0), .val (.int x1), .val (.int x2), .val (.int x3), .val (.int x4), .val (.int (3 : Int32)), .val (.ref sg1), .val (.ref sg5), .val (.ref sg9), .val (.ref b13), .val (.ref sg9), .val .null, .val (.ref sv132), .val (.ref sv136), .val (.ref b140), .val (.ref sg9)] [(.ref sg9), (.ref sg9)])) rfl (by rw [hml]; rfl) (Steps.refl _) (argsL := [(.ref sg9)]) (rest := []) (lenOf own_pd13 rfl) rfl (by show 2 * 0 + _ ≤ _; exact Nat.le_of_eq rfl) (hb hby at_191) (fun _ _ => ⟨rfl, e145, (by decide : 16 + 0 ≤ _), (by decide : 51 + 0 ≤ _)⟩)
      dsimp only [Pt.U, Pt.locs, Pt.cells, Pt.slots] at X148 l148 y148 z148 st148 hQ148
      subst l148 y148 z148
      obtain ⟨rfl, Nq148, e148⟩ := hQ148
      have N148 := Fr.app N145 Nq148
      refine own_fs st148 ?_
      show own_G p.tables e below _ (T148.setTop (mkF m 194 #[.val (.int x0), .val (.int x1), .val (.int x2), .val (.int x3), .val (.int x4), .val (.int (3 : Int32)), .val (.ref sg1), .val (.ref sg5), .val (.ref sg9), .val (.ref b13), .val (.ref sg9), .val .null, .val (.ref sv132), .val (.ref sv136), .val (.ref b140), .val (.ref sg9)] [(.int (1 : Int32))]))
      refine own_fs (XS.ifNo X148.here hx rfl (hb hby at_194) rfl (XT.i0_eq_f (by decide : ¬ ((1 : Int32) = (0 : Int32)))) (Steps.refl _)) ?_
      show own_G p.tables e below _ (T148.setTop (mkF m 197 #[.val (.int x0), .val (.int x1), .val (.int x2), .val (.int x3), .val (.int x4), .val (.int (3 : Int32)), .val (.ref sg1), .val (.ref sg5), .val (.ref sg9), .val (.ref b13), .val (.ref sg9), .val .null, .val (.ref sv132), .val (.ref sv136), .val (.ref b140), .val (.ref sg9)] []))
      refine own_fs (XS.iconst X148.here hx rfl (hb hby at_197) (Steps.refl _)) ?_
      show own_G p.tables e below _ (T148.setTop (mkF m 198 #[.val (.int x0), .val (.int x1), .val (.int x2), .val (.int x3), .val (.int x4), .val (.int (3 : Int32)), .val (.ref sg1), .val (.ref sg5), .val (.ref sg9), .val (.ref b13), .val (.ref sg9), .val .null, .val (.ref sv132), .val (.ref sv136), .val (.ref b140), .val (.ref sg9)] [(.int (1 : Int32))]))
      refine own_fs (XS.goto X148.here hx rfl (pc0 := 198) (pc' := 202) rfl (hb hby at_198) (by decide) (by decide) (Steps.refl _)) ?_
      show own_G p.tables e below _ (T148.setTop (mkF m 202 #[.val (.int x0), .val (.int x1), .val (.int x2), .val (.int x3), .val (.int x4), .val (.int (3 : Int32)), .val (.ref sg1), .val (.ref sg5), .val (.ref sg9), .val (.ref b13), .val (.ref sg9), .val .null, .val (.ref sv132), .val (.ref sv136), .val (.ref b140), .val (.ref sg9)] [(.int (1 : Int32))]))
      exact own_retN X148 hx (t := .boolean) Bd.returns hlk (by simp) (hb hby at_202) (by decide) (by decide) e148 ⟨rfl, N148⟩
set_option maxRecDepth 65536 in
set_option maxHeartbeats 40000000 in
theorem comes_1 {Post : Tables → Env → Array Value → State → Outcome → State → Prop} (hpost : ∀ tb e args s v u, (limb_1_1.after args s (.returned v) u = true ∧ limb_1_2.after args s (.returned v) u = true ∧ True) → FrameEnd s (.returned v) u (Jvm.fieldLocs frame_1_writes args s ++ Jvm.arrayLocs frame_1_arrays args s ++ Jvm.staticLocs frame_1_statics s) 48 192 → Post tb e args s (.returned v) u) :
    ArmFor flags0 classFile x code maxLocals ret World_1 tables_1 room_1 Calls_1 rest_1 Pre_1 Post := by
  intro l hfl _ _ p e ha hc hk s m args below hf hA hF happ hP
  obtain ⟨hcalls, hrest, hpre⟩ := hP
  obtain ⟨-, -, -, hnamed, -, -, -, hat⟩ := (Spec.applies_iff hf).mp happ
  obtain ⟨hg, hn⟩ := and_e (Cond.before_iff.mp (show (Jvm.Cond.and given_1 narrow_1).before args s = true from hpre))
  obtain ⟨hcount, hg0⟩ := and_e hg
  obtain ⟨ga0, hg1⟩ := and_e hg0
  obtain ⟨ga1, hg2⟩ := and_e hg1
  obtain ⟨ga2, hg3⟩ := and_e hg2
  obtain ⟨ga3, hg4⟩ := and_e hg3
  obtain ⟨w0, w1, w2, w3, w4, rfl⟩ : ∃ w0 w1 w2 w3 w4 : Value, args = #[w0, w1, w2, w3, w4] := by
    have hs : args.size = 5 := by simpa [Cond.value, given_1] using hcount
    obtain ⟨L⟩ := args
    match L, hs with
    | [w0, w1, w2, w3, w4], _ => exact ⟨w0, w1, w2, w3, w4, rfl⟩
  have hw := fun d (hd : d ∈ tables_1) => atoms_spec (ws := Jvm.Cond.code x code maxLocals ret :: tables_1) hat d (List.mem_cons_of_mem _ hd)
  have hfit : Fit s := fun {y c} hc i hi => by
    obtain ⟨ha, rfl⟩ := Array.getElem?_eq_some_iff.mp hc
    have q := List.all_eq_true.mp ((Array.all_eq_true_iff_forall_mem.mp hF) _ (Array.getElem_mem ha)) i (List.mem_range.mpr hi)
    simpa [Array.getElem?_eq_getElem hi] using q
  obtain ⟨hsets, hown0⟩ := atoms_of _ (rest_1_c_eq ▸ (show rest_1_c.before _ s = true from hrest))
  have hr0 := Cond.before_iff.mp hown0
  obtain ⟨i0, ei0⟩ := is_v ga0
  obtain rfl : w0 = (.int i0) := Option.some.inj ei0
  obtain ⟨i1, ei1⟩ := is_v ga1
  obtain rfl : w1 = (.int i1) := Option.some.inj ei1
  obtain ⟨i2, ei2⟩ := is_v ga2
  obtain rfl : w2 = (.int i2) := Option.some.inj ei2
  obtain ⟨i3, ei3⟩ := is_v ga3
  obtain rfl : w3 = (.int i3) := Option.some.inj ei3
  obtain ⟨i4, ei4⟩ := is_v hg4
  obtain rfl : w4 = (.int i4) := Option.some.inj ei4
  obtain ⟨cz, eCz⟩ := is_v (Cond.before_iff.mp (hsets _ (List.mem_of_getElem? (i := 1) rfl)))
  have hSc : Sta s s.heap "java/lang/String" "COMPACT_STRINGS" "Z" (.int cz) := Sta.start eCz (Or.inl (hsets _ (List.mem_of_getElem? (i := 0) rfl)))
  have hcz : ¬ (cz = (0 : Int32)) := gotF (Cond.eq_ints eCz (Term.int_eval (0))) (not_v (Cond.before_iff.mp (hsets _ (List.mem_of_getElem? (i := 2) rfl))))
  obtain ⟨db, eDb⟩ := arr_v (Cond.before_iff.mp (hsets _ (List.mem_of_getElem? (i := 15) rfl)))
  obtain ⟨dc, hAd⟩ := Arr.start eDb (Cond.before_iff.mp (hsets _ (List.mem_of_getElem? (i := 15) rfl)))
  have hLd := eqv_i (Term.int_eval 0) (Cond.before_iff.mp (hsets _ (List.mem_of_getElem? (i := 17) rfl)))
  obtain ⟨xd, dc', ld1, ld2, ld4⟩ := Term.length_spec hLd
  cases eDb.symm.trans ld1
  cases (hAd.fin (Vm.Alike.refl _)).symm.trans ld2
  have ld3 := own_len31 eDb (hAd.fin (Vm.Alike.refl _)) hLd
  have hDef : own_Def s db dc := ⟨Sta.start eDb (Or.inr ⟨(hw _ (List.mem_of_getElem? (i := 37) rfl)), (hsets _ (List.mem_of_getElem? (i := 11) rfl))⟩), hAd, own_zero ld3 (Value.int.inj ld4).symm⟩
  obtain ⟨n, o, h1, h2, h3, _, L, rfl, ⟨rfl, N⟩, hq⟩ := own_law l s _ hw tables_1 i0 i1 i2 i3 i4 cz db dc s.heap s.heap.size (Nat.le_refl _) hSc hcz hDef (Old.start s) p e ha hc hk s m _ below hf ((Spec.applies_iff_loose hf).mp happ).1 ⟨rfl, State.Warmed39.refl s, rfl⟩ trivial
  refine ⟨n, _, h1, h2, h3, hpost _ _ _ _ _ _ ⟨Cond.after_iff.mpr rfl, Cond.after_iff.mpr (eq_i res_at (Term.int_eval (1)) rfl), trivial⟩ ⟨hq.1, hq.2.1, (hq.2.2.sift fun y hy => Or.inr (N y hy)).mono (by decide) (by decide)⟩⟩
theorem main_1_1 : Claimed_1_1 := comes_1 fun _ _ _ _ _ _ h hF => ⟨h.1, hF⟩
theorem main_1_2 : Claimed_1_2 := comes_1 fun _ _ _ _ _ _ h hF => ⟨h.2.1, hF⟩
end Jvm.Pilot.@@N@@
namespace Jvm.Pilot.@@N@@
open Jvm Jvm.ClassFile Sem Op Lib Jvm.Free Jvm.Stand Jvm.Pilot.@@N@@.Jvm.D
/-! MADE BY PROGRAM (witnessworld.py) out of the Statement's table words and the real class files: 32 classes; the members and pool entries that the words name. The judged class is class 1, her method 2. -/
namespace start1
open Jvm.ClassFile
def u (s : String) : CpInfo := .utf8 (stringToUtf16 s)
/-- a pool by its gaps: so many unusable entries, then the entry; so many at the end -/
def gap : Nat → List CpInfo → List CpInfo
  | 0, r => r
  | n + 1, r => .unusable :: gap n r
def poolList (es : List (Nat × CpInfo)) (last : Nat) : List CpInfo := es.foldr (fun e r => gap e.1 (e.2 :: r)) (gap last [])
def pool (es : List (Nat × CpInfo)) (last : Nat) : Array CpInfo := ⟨poolList es last⟩
def fileOf (pool : Array CpInfo) (this : Nat) (attrs : Array Attribute := #[]) (ms : Array MethodInfo := #[]) (fl : Nat := 33) (sup : Nat := 0) (ifs : Array Nat := #[]) (fds : Array FieldInfo := #[]) : ClassFile where
  minorVersion := 0
  majorVersion := 65
  constantPool := pool
  accessFlags := fl
  thisClass := this
  superClass := sup
  interfaces := ifs
  fields := fds
  methods := ms
  attributes := attrs
def plain (name : String) (sup : Option ClassId) : Class where
  name := name
  kind := .ordinary
  loader := none
  accessFlags := 33
  super := sup
  interfaces := #[]
  cf := none
  fields := #[]
  methods := #[]
  instanceTypes := #[]
  staticTypes := #[]
  resolved := #[]
  callSites := []
  init := .initialized
  statics := none
  mirror := none

def pool0 : Array CpInfo := pool [(5, u "<init>"), (0, u "()V"), (1, .class_ 10), (1, u "java/lang/Object")] 113

def k0c0 : Code := { maxStack := 0, maxLocals := 1, code := object_method_1_code, exceptionTable := #[], attributes := #[] }
def k0m0 : Method := { name := "<init>", desc := "()V", sig := { parameters := [], returnType := none }, accessFlags := 1, code := some k0c0 }
/-- java/lang/Object -/
def k0 : Class := { plain "java/lang/Object" none with
  accessFlags := 33
  interfaces := #[]
  cf := some (fileOf pool0 8 #[] #[{ accessFlags := 1, nameIndex := 5, descriptorIndex := 6, attributes := #[] }] 33 0 #[] #[])
  fields := #[]
  methods := #[k0m0]
  instanceTypes := #[]
  staticTypes := #[]
  resolved := Array.replicate 124 none
  statics := none }

def pool1 : Array CpInfo := pool [(2, .class_ 4), (0, .nameAndType 5 6), (0, u "java/lang/Object"), (0, u "<init>"), (0, u "()V"), (0, .class_ 8), (0, u "java/lang/String"), (0, .methodref 7 10), (0, .nameAndType 5 11), (0, u "([C)V"), (0, .integer 2147483647), (0, .methodref 14 15), (0, .class_ 16), (0, .nameAndType 17 18), (0, u "com/example/corbelpath/corbelpath/TargetFileNamePinLaw"), (0, u "seg"), (0, u "(I)Ljava/lang/String;"), (0, .class_ 20), (0, u "java/util/ArrayList"), (0, .methodref 19 3), (0, .methodref 19 23), (0, .nameAndType 24 25), (0, u "add"), (0, u "(Ljava/lang/Object;)Z"), (0, .methodref 7 27), (0, .nameAndType 28 29), (0, u "valueOf"), (0, u "(C)Ljava/lang/String;"), (0, .class_ 31), (0, u "com/example/corbelpath/corbelpath/Deployment$Target"), (0, .methodref 30 33), (0, .nameAndType 5 34), (0, u "(Ljava/lang/String;Ljava/lang/String;Ljava/lang/String;Ljava/util/List;)V"), (0, .methodref 30 36), (0, .nameAndType 37 38), (0, u "fileName"), (0, u "()Ljava/lang/String;"), (0, .methodref 7 40), (0, .nameAndType 41 25), (0, u "equals"), (2, u "law"), (0, u "(IIIII)Z")] 7

def k1m0 : Method := { name := "<init>", desc := "()V", sig := { parameters := [], returnType := none }, accessFlags := 1, code := none }
def k1c1 : Code := { maxStack := 4, maxLocals := 2, code := method_2_code, exceptionTable := #[], attributes := #[] }
def k1m1 : Method := { name := "seg", desc := "(I)Ljava/lang/String;", sig := { parameters := [.int], returnType := some (.object "java/lang/String") }, accessFlags := 10, code := some k1c1 }
def k1c2 : Code := { maxStack := 6, maxLocals := 16, code := code, exceptionTable := #[], attributes := #[] }
def k1m2 : Method := { name := "law", desc := "(IIIII)Z", sig := { parameters := [.int, .int, .int, .int, .int], returnType := some .boolean }, accessFlags := 9, code := some k1c2 }
/-- com/example/corbelpath/corbelpath/TargetFileNamePinLaw -/
def k1 : Class := { plain "com/example/corbelpath/corbelpath/TargetFileNamePinLaw" (some 0) with
  accessFlags := 49
  interfaces := #[]
  cf := some (fileOf pool1 14 #[] #[{ accessFlags := 1, nameIndex := 5, descriptorIndex := 6, attributes := #[] }, { accessFlags := 10, nameIndex := 17, descriptorIndex := 18, attributes := #[] }, { accessFlags := 9, nameIndex := 44, descriptorIndex := 45, attributes := #[] }] 49 2 #[] #[])
  fields := #[]
  methods := #[k1m0, k1m1, k1m2]
  instanceTypes := #[]
  staticTypes := #[]
  resolved := Array.replicate 53 none
  statics := none }

def pool2 : Array CpInfo := pool [(1, .class_ 2), (0, u "java/io/Serializable"), (0, .class_ 4), (0, u "java/lang/Object")] 2

/-- java/io/Serializable -/
def k2 : Class := { plain "java/io/Serializable" (some 0) with
  accessFlags := 1537
  interfaces := #[]
  cf := some (fileOf pool2 1 #[] #[] 1537 3 #[] #[])
  fields := #[]
  methods := #[]
  instanceTypes := #[]
  staticTypes := #[]
  resolved := Array.replicate 7 none
  statics := none }

def pool3 : Array CpInfo := pool [(1, .class_ 2), (0, u "java/lang/Comparable"), (0, .class_ 4), (0, u "java/lang/Object")] 7

/-- java/lang/Comparable -/
def k3 : Class := { plain "java/lang/Comparable" (some 0) with
  accessFlags := 1537
  interfaces := #[]
  cf := some (fileOf pool3 1 #[] #[] 1537 3 #[] #[])
  fields := #[]
  methods := #[]
  instanceTypes := #[]
  staticTypes := #[]
  resolved := Array.replicate 12 none
  statics := none }

def pool4 : Array CpInfo := pool [(2, .class_ 4), (1, u "java/lang/CharSequence"), (42, .class_ 48), (0, u "java/lang/CharSequence$1CodePointIterator"), (10, .class_ 60), (0, u "java/lang/CharSequence$1CharIterator"), (5, .class_ 67), (0, u "java/lang/Object")] 63

/-- java/lang/CharSequence -/
def k4 : Class := { plain "java/lang/CharSequence" (some 0) with
  accessFlags := 1537
  interfaces := #[]
  cf := some (fileOf pool4 2 #[.nestMembers #[47, 59]] #[] 1537 66 #[] #[])
  fields := #[]
  methods := #[]
  instanceTypes := #[]
  staticTypes := #[]
  resolved := Array.replicate 131 none
  statics := none }

def pool5 : Array CpInfo := pool [(1, .class_ 2), (0, u "java/lang/constant/Constable"), (0, .class_ 4), (0, u "java/lang/Object")] 6

/-- java/lang/constant/Constable -/
def k5 : Class := { plain "java/lang/constant/Constable" (some 0) with
  accessFlags := 1537
  interfaces := #[]
  cf := some (fileOf pool5 1 #[] #[] 1537 3 #[] #[])
  fields := #[]
  methods := #[]
  instanceTypes := #[]
  staticTypes := #[]
  resolved := Array.replicate 11 none
  statics := none }

def pool6 : Array CpInfo := pool [(1, .class_ 2), (0, u "java/lang/constant/ConstantDesc"), (0, .class_ 4), (0, u "java/lang/Object")] 32

/-- java/lang/constant/ConstantDesc -/
def k6 : Class := { plain "java/lang/constant/ConstantDesc" (some 0) with
  accessFlags := 1537
  interfaces := #[]
  cf := some (fileOf pool6 1 #[] #[] 1537 3 #[] #[])
  fields := #[]
  methods := #[]
  instanceTypes := #[]
  staticTypes := #[]
  resolved := Array.replicate 37 none
  statics := none }

def pool7 : Array CpInfo := pool [(1, .methodref 2 3), (0, .class_ 4), (0, .nameAndType 5 6), (0, u "java/lang/Object"), (0, u "<init>"), (0, u "()V"), (2, .fieldref 10 11), (0, .class_ 12), (0, .nameAndType 13 14), (0, u "java/lang/String"), (0, u "value"), (0, u "[B"), (0, .fieldref 10 16), (0, .nameAndType 17 18), (0, u "coder"), (0, u "B"), (2, u "hash"), (0, u "I"), (2, u "hashIsZero"), (0, u "Z"), (0, .methodref 10 28), (0, .nameAndType 5 29), (0, u "([CIILjava/lang/Void;)V"), (8, .fieldref 10 39), (0, .nameAndType 40 26), (0, u "COMPACT_STRINGS"), (1, .class_ 44), (1, u "java/lang/StringUTF16"), (0, u "compress"), (1, .methodref 42 48), (0, .nameAndType 49 50), (0, u "coderFromArrayLen"), (0, u "([BI)B"), (2, u "toBytes"), (53, .class_ 109), (1, u "java/lang/StringLatin1"), (67, .methodref 42 178), (0, .nameAndType 45 179), (0, u "([CII)[B"), (29, .methodref 10 210), (0, .nameAndType 5 211), (0, u "([BB)V"), (157, u "(C)Z"), (173, u "equals"), (29, u "(Ljava/lang/Object;)Z"), (1, .class_ 576), (0, u "java/lang/CharSequence"), (22, u "CASE_INSENSITIVE_ORDER"), (0, u "Ljava/util/Comparator;"), (181, u "valueOf"), (0, u "(C)Ljava/lang/String;"), (226, u "([C)V"), (4, .methodref 107 1016), (0, .nameAndType 1017 369), (0, u "canEncode"), (0, .methodref 107 1019), (0, .nameAndType 53 1020), (0, u "(C)[B"), (80, u "serialPersistentFields"), (0, u "[Ljava/io/ObjectStreamField;"), (0, .class_ 1104), (0, u "java/lang/String$CaseInsensitiveComparator"), (1, .class_ 1107), (0, u "java/io/Serializable"), (0, .class_ 1109), (0, u "java/lang/Comparable"), (0, .class_ 1111), (0, u "java/lang/constant/Constable"), (0, .class_ 1113), (0, u "java/lang/constant/ConstantDesc"), (2, u "serialVersionUID"), (0, u "J"), (3, u "REPL"), (0, u "C"), (2, u "LATIN1"), (1, u "UTF16")] 323

def k7m0 : Method := { name := "<init>", desc := "()V", sig := { parameters := [], returnType := none }, accessFlags := 1, code := none }
def k7c1 : Code := { maxStack := 5, maxLocals := 2, code := jdk_42_method_3_code, exceptionTable := #[], attributes := #[] }
def k7m1 : Method := { name := "<init>", desc := "([C)V", sig := { parameters := [(.array .char)], returnType := none }, accessFlags := 1, code := some k7c1 }
def k7c2 : Code := { maxStack := 2, maxLocals := 3, code := jdk_42_method_66_code, exceptionTable := #[], attributes := #[] }
def k7m2 : Method := { name := "equals", desc := "(Ljava/lang/Object;)Z", sig := { parameters := [(.object "java/lang/Object")], returnType := some .boolean }, accessFlags := 1, code := some k7c2 }
def k7c3 : Code := { maxStack := 4, maxLocals := 1, code := jdk_42_method_139_code, exceptionTable := #[], attributes := #[] }
def k7m3 : Method := { name := "valueOf", desc := "(C)Ljava/lang/String;", sig := { parameters := [.char], returnType := some (.object "java/lang/String") }, accessFlags := 9, code := some k7c3 }
def k7c4 : Code := { maxStack := 4, maxLocals := 6, code := jdk_42_method_149_code, exceptionTable := #[], attributes := #[] }
def k7m4 : Method := { name := "<init>", desc := "([CIILjava/lang/Void;)V", sig := { parameters := [(.array .char), .int, .int, (.object "java/lang/Void")], returnType := none }, accessFlags := 2, code := some k7c4 }
def k7c5 : Code := { maxStack := 2, maxLocals := 3, code := jdk_42_method_151_code, exceptionTable := #[], attributes := #[] }
def k7m5 : Method := { name := "<init>", desc := "([BB)V", sig := { parameters := [(.array .byte), .byte], returnType := none }, accessFlags := 0, code := some k7c5 }
/-- java/lang/String -/
def k7 : Class := { plain "java/lang/String" (some 0) with
  accessFlags := 49
  interfaces := #[2, 3, 4, 5, 6]
  cf := some (fileOf pool7 10 #[.nestMembers #[1103]] #[{ accessFlags := 1, nameIndex := 5, descriptorIndex := 6, attributes := #[] }, { accessFlags := 1, nameIndex := 5, descriptorIndex := 1010, attributes := #[] }, { accessFlags := 1, nameIndex := 543, descriptorIndex := 573, attributes := #[] }, { accessFlags := 9, nameIndex := 782, descriptorIndex := 783, attributes := #[] }, { accessFlags := 2, nameIndex := 5, descriptorIndex := 29, attributes := #[] }, { accessFlags := 0, nameIndex := 5, descriptorIndex := 211, attributes := #[] }] 49 2 #[1106, 1108, 575, 1110, 1112] #[{ accessFlags := 18, nameIndex := 13, descriptorIndex := 14, attributes := #[] }, { accessFlags := 18, nameIndex := 17, descriptorIndex := 18, attributes := #[] }, { accessFlags := 2, nameIndex := 21, descriptorIndex := 22, attributes := #[] }, { accessFlags := 2, nameIndex := 25, descriptorIndex := 26, attributes := #[] }, { accessFlags := 26, nameIndex := 1116, descriptorIndex := 1117, attributes := #[] }, { accessFlags := 24, nameIndex := 40, descriptorIndex := 26, attributes := #[] }, { accessFlags := 26, nameIndex := 1101, descriptorIndex := 1102, attributes := #[] }, { accessFlags := 26, nameIndex := 1121, descriptorIndex := 1122, attributes := #[] }, { accessFlags := 25, nameIndex := 599, descriptorIndex := 600, attributes := #[] }, { accessFlags := 24, nameIndex := 1125, descriptorIndex := 18, attributes := #[] }, { accessFlags := 24, nameIndex := 1127, descriptorIndex := 18, attributes := #[] }])
  fields := #[{ name := "value", type := (.array .byte), accessFlags := 18, slot := 0, constantValue := 0 }, { name := "coder", type := .byte, accessFlags := 18, slot := 1, constantValue := 0 }, { name := "hash", type := .int, accessFlags := 2, slot := 2, constantValue := 0 }, { name := "hashIsZero", type := .boolean, accessFlags := 2, slot := 3, constantValue := 0 }, { name := "serialVersionUID", type := .long, accessFlags := 26, slot := 0, constantValue := 0 }, { name := "COMPACT_STRINGS", type := .boolean, accessFlags := 24, slot := 1, constantValue := 0 }, { name := "serialPersistentFields", type := (.array (.object "java/io/ObjectStreamField")), accessFlags := 26, slot := 2, constantValue := 0 }, { name := "REPL", type := .char, accessFlags := 26, slot := 3, constantValue := 0 }, { name := "CASE_INSENSITIVE_ORDER", type := (.object "java/util/Comparator"), accessFlags := 25, slot := 4, constantValue := 0 }, { name := "LATIN1", type := .byte, accessFlags := 24, slot := 5, constantValue := 0 }, { name := "UTF16", type := .byte, accessFlags := 24, slot := 6, constantValue := 0 }]
  methods := #[k7m0, k7m1, k7m2, k7m3, k7m4, k7m5]
  instanceTypes := #[(.array .byte), .byte, .int, .boolean]
  staticTypes := #[.long, .boolean, (.array (.object "java/io/ObjectStreamField")), .char, (.object "java/util/Comparator"), .byte, .byte]
  resolved := Array.replicate 1451 none
  statics := some 0 }

def pool8 : Array CpInfo := pool [(6, .class_ 8), (1, u "java/lang/Object"), (0, u "<init>"), (0, u "()V"), (1, .class_ 14), (1, u "java/lang/StringUTF16"), (31, u "$assertionsDisabled"), (0, u "Z"), (13, u "HI_BYTE_SHIFT"), (0, u "I"), (2, u "LO_BYTE_SHIFT"), (49, .methodref 12 116), (0, .nameAndType 117 118), (0, u "compress"), (0, u "([CI[BII)I"), (3, u "([CII)[B"), (138, u "coderFromArrayLen"), (0, u "([BI)B"), (106, .class_ 371), (1, u "java/lang/StringUTF16$LinesSpliterator"), (58, u "MAX_LENGTH"), (196, .class_ 628), (0, u "java/lang/StringUTF16$CodePointsSpliterator"), (0, .class_ 630), (0, u "java/lang/StringUTF16$CharsSpliterator")] 4

def k8m0 : Method := { name := "<init>", desc := "()V", sig := { parameters := [], returnType := none }, accessFlags := 0, code := none }
def k8c1 : Code := { maxStack := 2, maxLocals := 2, code := jdk_52_method_15_code, exceptionTable := #[], attributes := #[] }
def k8m1 : Method := { name := "coderFromArrayLen", desc := "([BI)B", sig := { parameters := [(.array .byte), .int], returnType := some .byte }, accessFlags := 8, code := some k8c1 }
def k8c2 : Code := { maxStack := 5, maxLocals := 6, code := jdk_52_method_16_code, exceptionTable := #[], attributes := #[] }
def k8m2 : Method := { name := "compress", desc := "([CII)[B", sig := { parameters := [(.array .char), .int, .int], returnType := some (.array .byte) }, accessFlags := 9, code := some k8c2 }
def k8c3 : Code := { maxStack := 3, maxLocals := 7, code := jdk_52_method_21_code, exceptionTable := #[], attributes := #[] }
def k8m3 : Method := { name := "compress", desc := "([CI[BII)I", sig := { parameters := [(.array .char), .int, (.array .byte), .int, .int], returnType := some .int }, accessFlags := 9, code := some k8c3 }
/-- java/lang/StringUTF16 -/
def k8 : Class := { plain "java/lang/StringUTF16" (some 0) with
  accessFlags := 48
  interfaces := #[]
  cf := some (fileOf pool8 12 #[.nestMembers #[627, 629, 369]] #[{ accessFlags := 0, nameIndex := 9, descriptorIndex := 10, attributes := #[] }, { accessFlags := 8, nameIndex := 261, descriptorIndex := 262, attributes := #[] }, { accessFlags := 9, nameIndex := 117, descriptorIndex := 122, attributes := #[] }, { accessFlags := 9, nameIndex := 117, descriptorIndex := 118, attributes := #[] }] 48 6 #[] #[{ accessFlags := 26, nameIndex := 61, descriptorIndex := 62, attributes := #[] }, { accessFlags := 26, nameIndex := 65, descriptorIndex := 62, attributes := #[] }, { accessFlags := 24, nameIndex := 430, descriptorIndex := 62, attributes := #[] }, { accessFlags := 4120, nameIndex := 46, descriptorIndex := 47, attributes := #[] }])
  fields := #[{ name := "HI_BYTE_SHIFT", type := .int, accessFlags := 26, slot := 0, constantValue := 0 }, { name := "LO_BYTE_SHIFT", type := .int, accessFlags := 26, slot := 1, constantValue := 0 }, { name := "MAX_LENGTH", type := .int, accessFlags := 24, slot := 2, constantValue := 0 }, { name := "$assertionsDisabled", type := .boolean, accessFlags := 4120, slot := 3, constantValue := 0 }]
  methods := #[k8m0, k8m1, k8m2, k8m3]
  instanceTypes := #[]
  staticTypes := #[.int, .int, .int, .boolean]
  resolved := Array.replicate 635 none
  statics := none }

def pool9 : Array CpInfo := pool [(8, .class_ 10), (1, u "java/lang/Iterable"), (24, .class_ 36), (0, u "java/lang/Object")] 25

/-- java/lang/Iterable -/
def k9 : Class := { plain "java/lang/Iterable" (some 0) with
  accessFlags := 1537
  interfaces := #[]
  cf := some (fileOf pool9 8 #[] #[] 1537 35 #[] #[])
  fields := #[]
  methods := #[]
  instanceTypes := #[]
  staticTypes := #[]
  resolved := Array.replicate 62 none
  statics := none }

def pool10 : Array CpInfo := pool [(10, .class_ 12), (1, u "java/util/Collection"), (47, .class_ 61), (0, u "java/lang/Object"), (0, .class_ 63), (0, u "java/lang/Iterable")] 51

/-- java/util/Collection -/
def k10 : Class := { plain "java/util/Collection" (some 0) with
  accessFlags := 1537
  interfaces := #[9]
  cf := some (fileOf pool10 10 #[] #[] 1537 60 #[62] #[])
  fields := #[]
  methods := #[]
  instanceTypes := #[]
  staticTypes := #[]
  resolved := Array.replicate 115 none
  statics := none }

def pool11 : Array CpInfo := pool [(1, .methodref 2 3), (0, .class_ 4), (0, .nameAndType 5 6), (0, u "java/lang/Object"), (0, u "<init>"), (0, u "()V"), (1, .class_ 10), (1, u "java/util/AbstractCollection"), (66, .class_ 78), (0, u "java/util/Collection")] 81

def k11c0 : Code := { maxStack := 1, maxLocals := 1, code := jdk_22_method_1_code, exceptionTable := #[], attributes := #[] }
def k11m0 : Method := { name := "<init>", desc := "()V", sig := { parameters := [], returnType := none }, accessFlags := 4, code := some k11c0 }
/-- java/util/AbstractCollection -/
def k11 : Class := { plain "java/util/AbstractCollection" (some 0) with
  accessFlags := 1057
  interfaces := #[10]
  cf := some (fileOf pool11 8 #[] #[{ accessFlags := 4, nameIndex := 5, descriptorIndex := 6, attributes := #[] }] 1057 2 #[77] #[])
  fields := #[]
  methods := #[k11m0]
  instanceTypes := #[]
  staticTypes := #[]
  resolved := Array.replicate 160 none
  statics := none }

def pool12 : Array CpInfo := pool [(8, .class_ 10), (1, u "java/util/SequencedCollection"), (15, .class_ 27), (0, u "java/lang/Object"), (0, .class_ 29), (0, u "java/util/Collection")] 27

/-- java/util/SequencedCollection -/
def k12 : Class := { plain "java/util/SequencedCollection" (some 0) with
  accessFlags := 1537
  interfaces := #[10]
  cf := some (fileOf pool12 8 #[] #[] 1537 26 #[28] #[])
  fields := #[]
  methods := #[]
  instanceTypes := #[]
  staticTypes := #[]
  resolved := Array.replicate 57 none
  statics := none }

def pool13 : Array CpInfo := pool [(8, .class_ 10), (1, u "java/util/List"), (64, u "get"), (0, u "(I)Ljava/lang/Object;"), (2, u "size"), (0, u "()I"), (22, .class_ 104), (0, u "java/lang/Object"), (15, .class_ 121), (0, u "java/util/SequencedCollection")] 129

def k13m0 : Method := { name := "size", desc := "()I", sig := { parameters := [], returnType := some .int }, accessFlags := 1025, code := none }
def k13m1 : Method := { name := "get", desc := "(I)Ljava/lang/Object;", sig := { parameters := [.int], returnType := some (.object "java/lang/Object") }, accessFlags := 1025, code := none }
/-- java/util/List -/
def k13 : Class := { plain "java/util/List" (some 0) with
  accessFlags := 1537
  interfaces := #[12]
  cf := some (fileOf pool13 8 #[] #[{ accessFlags := 1025, nameIndex := 79, descriptorIndex := 80, attributes := #[] }, { accessFlags := 1025, nameIndex := 75, descriptorIndex := 76, attributes := #[] }] 1537 103 #[120] #[])
  fields := #[]
  methods := #[k13m0, k13m1]
  instanceTypes := #[]
  staticTypes := #[]
  resolved := Array.replicate 251 none
  statics := none }

def pool14 : Array CpInfo := pool [(1, .methodref 2 3), (0, .class_ 4), (0, .nameAndType 5 6), (0, u "java/util/AbstractCollection"), (0, u "<init>"), (0, u "()V"), (0, .fieldref 8 9), (0, .class_ 10), (0, .nameAndType 11 12), (0, u "java/util/AbstractList"), (0, u "modCount"), (0, u "I"), (64, .class_ 78), (0, u "java/util/AbstractList$Itr"), (3, .class_ 83), (0, u "java/util/AbstractList$ListItr"), (9, .class_ 94), (0, u "java/util/AbstractList$RandomAccessSubList"), (3, .class_ 99), (0, u "java/util/AbstractList$SubList"), (33, .class_ 134), (0, u "java/util/List"), (73, .class_ 209), (0, u "java/util/AbstractList$SubList$1"), (0, .class_ 211), (0, u "java/util/AbstractList$RandomAccessSpliterator")] 6

def k14c0 : Code := { maxStack := 2, maxLocals := 1, code := jdk_39_method_1_code, exceptionTable := #[], attributes := #[] }
def k14m0 : Method := { name := "<init>", desc := "()V", sig := { parameters := [], returnType := none }, accessFlags := 4, code := some k14c0 }
/-- java/util/AbstractList -/
def k14 : Class := { plain "java/util/AbstractList" (some 11) with
  accessFlags := 1057
  interfaces := #[13]
  cf := some (fileOf pool14 8 #[.nestMembers #[93, 98, 208, 210, 82, 77]] #[{ accessFlags := 4, nameIndex := 5, descriptorIndex := 6, attributes := #[] }] 1057 2 #[133] #[{ accessFlags := 132, nameIndex := 11, descriptorIndex := 12, attributes := #[] }])
  fields := #[{ name := "modCount", type := .int, accessFlags := 132, slot := 0, constantValue := 0 }]
  methods := #[k14m0]
  instanceTypes := #[.int]
  staticTypes := #[]
  resolved := Array.replicate 218 none
  statics := none }

def pool15 : Array CpInfo := pool [(1, .class_ 2), (0, u "java/util/RandomAccess"), (0, .class_ 4), (0, u "java/lang/Object")] 2

/-- java/util/RandomAccess -/
def k15 : Class := { plain "java/util/RandomAccess" (some 0) with
  accessFlags := 1537
  interfaces := #[]
  cf := some (fileOf pool15 1 #[] #[] 1537 3 #[] #[])
  fields := #[]
  methods := #[]
  instanceTypes := #[]
  staticTypes := #[]
  resolved := Array.replicate 7 none
  statics := none }

def pool16 : Array CpInfo := pool [(1, .class_ 2), (0, u "java/lang/Cloneable"), (0, .class_ 4), (0, u "java/lang/Object")] 2

/-- java/lang/Cloneable -/
def k16 : Class := { plain "java/lang/Cloneable" (some 0) with
  accessFlags := 1537
  interfaces := #[]
  cf := some (fileOf pool16 1 #[] #[] 1537 3 #[] #[])
  fields := #[]
  methods := #[]
  instanceTypes := #[]
  staticTypes := #[]
  resolved := Array.replicate 7 none
  statics := none }

def pool17 : Array CpInfo := pool [(1, .methodref 2 3), (0, .class_ 4), (0, .nameAndType 5 6), (0, u "java/util/AbstractList"), (0, u "<init>"), (0, u "()V"), (0, .class_ 8), (0, u "java/lang/Object"), (0, .fieldref 10 11), (0, .class_ 12), (0, .nameAndType 13 14), (0, u "java/util/ArrayList"), (0, u "elementData"), (0, u "[Ljava/lang/Object;"), (2, u "EMPTY_ELEMENTDATA"), (21, .fieldref 10 40), (0, .nameAndType 41 14), (0, u "DEFAULTCAPACITY_EMPTY_ELEMENTDATA"), (5, u "()[Ljava/lang/Object;"), (0, .fieldref 10 49), (0, .nameAndType 50 51), (0, u "size"), (0, u "I"), (11, .fieldref 10 64), (0, .nameAndType 65 51), (0, u "modCount"), (3, .methodref 10 70), (0, .nameAndType 71 72), (0, u "grow"), (0, u "(I)[Ljava/lang/Object;"), (6, .methodref 80 81), (0, .class_ 82), (0, .nameAndType 83 84), (0, u "java/lang/Math"), (0, u "max"), (0, u "(II)I"), (11, u "(Ljava/lang/Object;)Z"), (21, .methodref 119 120), (0, .class_ 121), (0, .nameAndType 122 84), (0, u "java/util/Objects"), (0, u "checkIndex"), (0, .methodref 10 124), (0, .nameAndType 13 125), (0, u "(I)Ljava/lang/Object;"), (3, .methodref 10 130), (0, .nameAndType 71 47), (0, .methodref 10 132), (0, .nameAndType 133 134), (0, u "add"), (0, u "(Ljava/lang/Object;[Ljava/lang/Object;I)V"), (13, .class_ 149), (0, u "java/util/List"), (36, u "()I"), (75, .class_ 263), (0, u "java/util/ArrayList$ListItr"), (3, .class_ 268), (0, u "java/util/ArrayList$Itr"), (7, .class_ 277), (0, u "java/util/ArrayList$SubList"), (12, .class_ 291), (0, u "java/util/ArrayList$ArrayListSpliterator"), (37, .class_ 330), (0, u "java/util/RandomAccess"), (0, .class_ 332), (0, u "java/lang/Cloneable"), (0, .class_ 334), (0, u "java/io/Serializable"), (0, u "serialVersionUID"), (0, u "J"), (3, u "DEFAULT_CAPACITY"), (40, u "get"), (118, .class_ 501), (0, u "java/util/ArrayList$SubList$2"), (0, .class_ 503), (0, u "java/util/ArrayList$SubList$1")] 5

def k17c0 : Code := { maxStack := 2, maxLocals := 1, code := jdk_38_method_2_code, exceptionTable := #[], attributes := #[] }
def k17m0 : Method := { name := "<init>", desc := "()V", sig := { parameters := [], returnType := none }, accessFlags := 1, code := some k17c0 }
def k17c1 : Code := { maxStack := 4, maxLocals := 4, code := jdk_38_method_6_code, exceptionTable := #[], attributes := #[] }
def k17m1 : Method := { name := "grow", desc := "(I)[Ljava/lang/Object;", sig := { parameters := [.int], returnType := some (.array (.object "java/lang/Object")) }, accessFlags := 2, code := some k17c1 }
def k17c2 : Code := { maxStack := 3, maxLocals := 1, code := jdk_38_method_7_code, exceptionTable := #[], attributes := #[] }
def k17m2 : Method := { name := "grow", desc := "()[Ljava/lang/Object;", sig := { parameters := [], returnType := some (.array (.object "java/lang/Object")) }, accessFlags := 2, code := some k17c2 }
def k17c3 : Code := { maxStack := 1, maxLocals := 1, code := jdk_38_method_8_code, exceptionTable := #[], attributes := #[] }
def k17m3 : Method := { name := "size", desc := "()I", sig := { parameters := [], returnType := some .int }, accessFlags := 1, code := some k17c3 }
def k17c4 : Code := { maxStack := 2, maxLocals := 2, code := jdk_38_method_18_code, exceptionTable := #[], attributes := #[] }
def k17m4 : Method := { name := "elementData", desc := "(I)Ljava/lang/Object;", sig := { parameters := [.int], returnType := some (.object "java/lang/Object") }, accessFlags := 0, code := some k17c4 }
def k17c5 : Code := { maxStack := 2, maxLocals := 2, code := jdk_38_method_20_code, exceptionTable := #[], attributes := #[] }
def k17m5 : Method := { name := "get", desc := "(I)Ljava/lang/Object;", sig := { parameters := [.int], returnType := some (.object "java/lang/Object") }, accessFlags := 1, code := some k17c5 }
def k17c6 : Code := { maxStack := 3, maxLocals := 4, code := jdk_38_method_24_code, exceptionTable := #[], attributes := #[] }
def k17m6 : Method := { name := "add", desc := "(Ljava/lang/Object;[Ljava/lang/Object;I)V", sig := { parameters := [(.object "java/lang/Object"), (.array (.object "java/lang/Object")), .int], returnType := none }, accessFlags := 2, code := some k17c6 }
def k17c7 : Code := { maxStack := 4, maxLocals := 2, code := jdk_38_method_25_code, exceptionTable := #[], attributes := #[] }
def k17m7 : Method := { name := "add", desc := "(Ljava/lang/Object;)Z", sig := { parameters := [(.object "java/lang/Object")], returnType := some .boolean }, accessFlags := 1, code := some k17c7 }
/-- java/util/ArrayList -/
def k17 : Class := { plain "java/util/ArrayList" (some 14) with
  accessFlags := 33
  interfaces := #[13, 15, 16, 2]
  cf := some (fileOf pool17 10 #[.nestMembers #[290, 276, 500, 502, 262, 267]] #[{ accessFlags := 1, nameIndex := 5, descriptorIndex := 6, attributes := #[] }, { accessFlags := 2, nameIndex := 71, descriptorIndex := 72, attributes := #[] }, { accessFlags := 2, nameIndex := 71, descriptorIndex := 47, attributes := #[] }, { accessFlags := 1, nameIndex := 50, descriptorIndex := 186, attributes := #[] }, { accessFlags := 0, nameIndex := 13, descriptorIndex := 125, attributes := #[] }, { accessFlags := 1, nameIndex := 381, descriptorIndex := 125, attributes := #[] }, { accessFlags := 2, nameIndex := 133, descriptorIndex := 134, attributes := #[] }, { accessFlags := 1, nameIndex := 133, descriptorIndex := 96, attributes := #[] }] 33 2 #[148, 329, 331, 333] #[{ accessFlags := 26, nameIndex := 335, descriptorIndex := 336, attributes := #[] }, { accessFlags := 26, nameIndex := 340, descriptorIndex := 51, attributes := #[] }, { accessFlags := 26, nameIndex := 17, descriptorIndex := 14, attributes := #[] }, { accessFlags := 26, nameIndex := 41, descriptorIndex := 14, attributes := #[] }, { accessFlags := 128, nameIndex := 13, descriptorIndex := 14, attributes := #[] }, { accessFlags := 2, nameIndex := 50, descriptorIndex := 51, attributes := #[] }])
  fields := #[{ name := "serialVersionUID", type := .long, accessFlags := 26, slot := 0, constantValue := 0 }, { name := "DEFAULT_CAPACITY", type := .int, accessFlags := 26, slot := 1, constantValue := 0 }, { name := "EMPTY_ELEMENTDATA", type := (.array (.object "java/lang/Object")), accessFlags := 26, slot := 2, constantValue := 0 }, { name := "DEFAULTCAPACITY_EMPTY_ELEMENTDATA", type := (.array (.object "java/lang/Object")), accessFlags := 26, slot := 3, constantValue := 0 }, { name := "elementData", type := (.array (.object "java/lang/Object")), accessFlags := 128, slot := 1, constantValue := 0 }, { name := "size", type := .int, accessFlags := 2, slot := 2, constantValue := 0 }]
  methods := #[k17m0, k17m1, k17m2, k17m3, k17m4, k17m5, k17m6, k17m7]
  instanceTypes := #[.int, (.array (.object "java/lang/Object")), .int]
  staticTypes := #[.long, .int, (.array (.object "java/lang/Object")), (.array (.object "java/lang/Object"))]
  resolved := Array.replicate 509 none
  statics := some 1 }

def pool18 : Array CpInfo := pool [(1, .class_ 2), (0, u "java/lang/Math"), (1, .class_ 6), (1, u "java/lang/Object"), (0, u "<init>"), (0, u "()V"), (89, .class_ 100), (1, u "java/lang/Math$RandomNumberGeneratorHolder"), (71, u "negativeZeroFloatBits"), (0, u "J"), (2, u "negativeZeroDoubleBits"), (21, u "max"), (46, u "$assertionsDisabled"), (0, u "Z"), (88, u "(II)I"), (2, u "twoToTheDoubleScaleDown"), (0, u "D"), (4, u "twoToTheDoubleScaleUp"), (9, u "E"), (3, u "PI"), (2, u "TAU"), (2, u "DEGREES_TO_RADIANS"), (0, u "RADIANS_TO_DEGREES")] 94

def k18m0 : Method := { name := "<init>", desc := "()V", sig := { parameters := [], returnType := none }, accessFlags := 2, code := none }
def k18c1 : Code := { maxStack := 2, maxLocals := 2, code := jdk_29_method_65_code, exceptionTable := #[], attributes := #[] }
def k18m1 : Method := { name := "max", desc := "(II)I", sig := { parameters := [.int, .int], returnType := some .int }, accessFlags := 9, code := some k18c1 }
/-- java/lang/Math -/
def k18 : Class := { plain "java/lang/Math" (some 0) with
  accessFlags := 49
  interfaces := #[]
  cf := some (fileOf pool18 1 #[.nestMembers #[98]] #[{ accessFlags := 2, nameIndex := 7, descriptorIndex := 8, attributes := #[] }, { accessFlags := 9, nameIndex := 198, descriptorIndex := 335, attributes := #[] }] 49 4 #[] #[{ accessFlags := 25, nameIndex := 354, descriptorIndex := 339, attributes := #[] }, { accessFlags := 25, nameIndex := 358, descriptorIndex := 339, attributes := #[] }, { accessFlags := 25, nameIndex := 361, descriptorIndex := 339, attributes := #[] }, { accessFlags := 26, nameIndex := 364, descriptorIndex := 339, attributes := #[] }, { accessFlags := 26, nameIndex := 365, descriptorIndex := 339, attributes := #[] }, { accessFlags := 26, nameIndex := 172, descriptorIndex := 173, attributes := #[] }, { accessFlags := 26, nameIndex := 176, descriptorIndex := 173, attributes := #[] }, { accessFlags := 8, nameIndex := 344, descriptorIndex := 339, attributes := #[] }, { accessFlags := 8, nameIndex := 338, descriptorIndex := 339, attributes := #[] }, { accessFlags := 4120, nameIndex := 245, descriptorIndex := 246, attributes := #[] }])
  fields := #[{ name := "E", type := .double, accessFlags := 25, slot := 0, constantValue := 0 }, { name := "PI", type := .double, accessFlags := 25, slot := 1, constantValue := 0 }, { name := "TAU", type := .double, accessFlags := 25, slot := 2, constantValue := 0 }, { name := "DEGREES_TO_RADIANS", type := .double, accessFlags := 26, slot := 3, constantValue := 0 }, { name := "RADIANS_TO_DEGREES", type := .double, accessFlags := 26, slot := 4, constantValue := 0 }, { name := "negativeZeroFloatBits", type := .long, accessFlags := 26, slot := 5, constantValue := 0 }, { name := "negativeZeroDoubleBits", type := .long, accessFlags := 26, slot := 6, constantValue := 0 }, { name := "twoToTheDoubleScaleUp", type := .double, accessFlags := 8, slot := 7, constantValue := 0 }, { name := "twoToTheDoubleScaleDown", type := .double, accessFlags := 8, slot := 8, constantValue := 0 }, { name := "$assertionsDisabled", type := .boolean, accessFlags := 4120, slot := 9, constantValue := 0 }]
  methods := #[k18m0, k18m1]
  instanceTypes := #[]
  staticTypes := #[.double, .double, .double, .double, .double, .long, .long, .double, .double, .boolean]
  resolved := Array.replicate 460 none
  statics := none }

def pool19 : Array CpInfo := pool [(4, .class_ 6), (1, u "java/lang/Object"), (0, u "<init>"), (0, u "()V"), (5, .class_ 16), (1, u "java/lang/StringLatin1"), (73, u "canEncode"), (14, u "(C)Z"), (15, u "$assertionsDisabled"), (0, u "Z"), (98, .class_ 223), (1, u "java/lang/StringLatin1$LinesSpliterator"), (156, u "toBytes"), (1, u "(C)[B"), (7, .class_ 391), (0, u "java/lang/StringLatin1$CharsSpliterator")] 3

def k19m0 : Method := { name := "<init>", desc := "()V", sig := { parameters := [], returnType := none }, accessFlags := 0, code := none }
def k19c1 : Code := { maxStack := 2, maxLocals := 1, code := jdk_43_method_3_code, exceptionTable := #[], attributes := #[] }
def k19m1 : Method := { name := "canEncode", desc := "(C)Z", sig := { parameters := [.char], returnType := some .boolean }, accessFlags := 9, code := some k19c1 }
def k19c2 : Code := { maxStack := 4, maxLocals := 1, code := jdk_43_method_46_code, exceptionTable := #[], attributes := #[] }
def k19m2 : Method := { name := "toBytes", desc := "(C)[B", sig := { parameters := [.char], returnType := some (.array .byte) }, accessFlags := 9, code := some k19c2 }
/-- java/lang/StringLatin1 -/
def k19 : Class := { plain "java/lang/StringLatin1" (some 0) with
  accessFlags := 48
  interfaces := #[]
  cf := some (fileOf pool19 14 #[.nestMembers #[390, 221]] #[{ accessFlags := 0, nameIndex := 7, descriptorIndex := 8, attributes := #[] }, { accessFlags := 9, nameIndex := 90, descriptorIndex := 105, attributes := #[] }, { accessFlags := 9, nameIndex := 380, descriptorIndex := 382, attributes := #[] }] 48 4 #[] #[{ accessFlags := 4120, nameIndex := 121, descriptorIndex := 122, attributes := #[] }])
  fields := #[{ name := "$assertionsDisabled", type := .boolean, accessFlags := 4120, slot := 0, constantValue := 0 }]
  methods := #[k19m0, k19m1, k19m2]
  instanceTypes := #[]
  staticTypes := #[.boolean]
  resolved := Array.replicate 395 none
  statics := none }

def pool20 : Array CpInfo := pool [(1, .methodref 2 3), (0, .class_ 4), (0, .nameAndType 5 6), (0, u "java/lang/Object"), (0, u "<init>"), (0, u "()V"), (0, .class_ 8), (0, u "java/lang/Record")] 13

def k20c0 : Code := { maxStack := 1, maxLocals := 1, code := jdk_30_method_1_code, exceptionTable := #[], attributes := #[] }
def k20m0 : Method := { name := "<init>", desc := "()V", sig := { parameters := [], returnType := none }, accessFlags := 4, code := some k20c0 }
/-- java/lang/Record -/
def k20 : Class := { plain "java/lang/Record" (some 0) with
  accessFlags := 1057
  interfaces := #[]
  cf := some (fileOf pool20 7 #[] #[{ accessFlags := 4, nameIndex := 5, descriptorIndex := 6, attributes := #[] }] 1057 2 #[] #[])
  fields := #[]
  methods := #[k20m0]
  instanceTypes := #[]
  staticTypes := #[]
  resolved := Array.replicate 22 none
  statics := none }

def pool21 : Array CpInfo := pool [(1, .methodref 2 3), (0, .class_ 4), (0, .nameAndType 5 6), (0, u "java/lang/Record"), (0, u "<init>"), (0, u "()V"), (0, .fieldref 8 9), (0, .class_ 10), (0, .nameAndType 11 12), (0, u "com/example/corbelpath/corbelpath/Deployment$Target"), (0, u "version"), (0, u "Ljava/lang/String;"), (0, .fieldref 8 14), (0, .nameAndType 15 12), (0, u "locale"), (0, .fieldref 8 17), (0, .nameAndType 18 12), (0, u "library"), (0, .fieldref 8 20), (0, .nameAndType 21 22), (0, u "path"), (0, u "Ljava/util/List;"), (19, .class_ 44), (1, u "java/lang/String"), (5, .interfaceMethodref 51 52), (0, .class_ 53), (0, .nameAndType 54 55), (0, u "java/util/List"), (0, u "size"), (0, u "()I"), (0, .interfaceMethodref 51 57), (0, .nameAndType 58 59), (0, u "get"), (0, u "(I)Ljava/lang/Object;"), (14, u "(Ljava/lang/String;Ljava/lang/String;Ljava/lang/String;Ljava/util/List;)V"), (8, u "()Ljava/lang/String;"), (0, u "fileName"), (6, .class_ 92), (0, u "com/example/corbelpath/corbelpath/Deployment")] 32

def k21c0 : Code := { maxStack := 2, maxLocals := 5, code := prog_27_method_1_code, exceptionTable := #[], attributes := #[] }
def k21m0 : Method := { name := "<init>", desc := "(Ljava/lang/String;Ljava/lang/String;Ljava/lang/String;Ljava/util/List;)V", sig := { parameters := [(.object "java/lang/String"), (.object "java/lang/String"), (.object "java/lang/String"), (.object "java/util/List")], returnType := none }, accessFlags := 0, code := some k21c0 }
def k21c1 : Code := { maxStack := 3, maxLocals := 1, code := prog_27_method_4_code, exceptionTable := #[], attributes := #[] }
def k21m1 : Method := { name := "fileName", desc := "()Ljava/lang/String;", sig := { parameters := [], returnType := some (.object "java/lang/String") }, accessFlags := 0, code := some k21c1 }
/-- com/example/corbelpath/corbelpath/Deployment$Target -/
def k21 : Class := { plain "com/example/corbelpath/corbelpath/Deployment$Target" (some 20) with
  accessFlags := 48
  interfaces := #[]
  cf := some (fileOf pool21 8 #[.nestHost 91] #[{ accessFlags := 0, nameIndex := 5, descriptorIndex := 74, attributes := #[] }, { accessFlags := 0, nameIndex := 84, descriptorIndex := 83, attributes := #[] }] 48 2 #[] #[{ accessFlags := 18, nameIndex := 11, descriptorIndex := 12, attributes := #[] }, { accessFlags := 18, nameIndex := 15, descriptorIndex := 12, attributes := #[] }, { accessFlags := 18, nameIndex := 18, descriptorIndex := 12, attributes := #[] }, { accessFlags := 18, nameIndex := 21, descriptorIndex := 22, attributes := #[] }])
  fields := #[{ name := "version", type := (.object "java/lang/String"), accessFlags := 18, slot := 0, constantValue := 0 }, { name := "locale", type := (.object "java/lang/String"), accessFlags := 18, slot := 1, constantValue := 0 }, { name := "library", type := (.object "java/lang/String"), accessFlags := 18, slot := 2, constantValue := 0 }, { name := "path", type := (.object "java/util/List"), accessFlags := 18, slot := 3, constantValue := 0 }]
  methods := #[k21m0, k21m1]
  instanceTypes := #[(.object "java/lang/String"), (.object "java/lang/String"), (.object "java/lang/String"), (.object "java/util/List")]
  staticTypes := #[]
  resolved := Array.replicate 125 none
  statics := none }

def pool22 : Array CpInfo := pool [(2, .class_ 4), (1, u "java/lang/Object"), (0, u "<init>"), (0, u "()V"), (35, .class_ 44), (1, u "java/util/Objects"), (60, .methodref 106 107), (0, .class_ 108), (0, .nameAndType 109 110), (0, u "jdk/internal/util/Preconditions"), (0, u "checkIndex"), (0, u "(IILjava/util/function/BiFunction;)I"), (60, u "(II)I")] 12

def k22m0 : Method := { name := "<init>", desc := "()V", sig := { parameters := [], returnType := none }, accessFlags := 2, code := none }
def k22c1 : Code := { maxStack := 3, maxLocals := 2, code := jdk_31_method_17_code, exceptionTable := #[], attributes := #[] }
def k22m1 : Method := { name := "checkIndex", desc := "(II)I", sig := { parameters := [.int, .int], returnType := some .int }, accessFlags := 9, code := some k22c1 }
/-- java/util/Objects -/
def k22 : Class := { plain "java/util/Objects" (some 0) with
  accessFlags := 49
  interfaces := #[]
  cf := some (fileOf pool22 42 #[] #[{ accessFlags := 2, nameIndex := 5, descriptorIndex := 6, attributes := #[] }, { accessFlags := 9, nameIndex := 109, descriptorIndex := 171, attributes := #[] }] 49 2 #[] #[])
  fields := #[]
  methods := #[k22m0, k22m1]
  instanceTypes := #[]
  staticTypes := #[]
  resolved := Array.replicate 184 none
  statics := none }

def pool23 : Array CpInfo := pool [(2, .class_ 4), (1, u "java/lang/Object"), (0, u "<init>"), (0, u "()V"), (17, .class_ 26), (1, u "jdk/internal/util/Preconditions"), (6, u "checkIndex"), (21, .class_ 56), (0, u "jdk/internal/util/Preconditions$4"), (57, .class_ 115), (0, u "jdk/internal/util/Preconditions$1"), (7, u "SIOOBE_FORMATTER"), (0, u "Ljava/util/function/BiFunction;"), (0, .class_ 126), (0, u "jdk/internal/util/Preconditions$2"), (3, u "AIOOBE_FORMATTER"), (0, .class_ 132), (0, u "jdk/internal/util/Preconditions$3"), (3, u "IOOBE_FORMATTER"), (41, u "(IILjava/util/function/BiFunction;)I")] 15

def k23m0 : Method := { name := "<init>", desc := "()V", sig := { parameters := [], returnType := none }, accessFlags := 1, code := none }
def k23c1 : Code := { maxStack := 3, maxLocals := 3, code := jdk_41_method_11_code, exceptionTable := #[], attributes := #[] }
def k23m1 : Method := { name := "checkIndex", desc := "(IILjava/util/function/BiFunction;)I", sig := { parameters := [.int, .int, (.object "java/util/function/BiFunction")], returnType := some .int }, accessFlags := 9, code := some k23c1 }
/-- jdk/internal/util/Preconditions -/
def k23 : Class := { plain "jdk/internal/util/Preconditions" (some 0) with
  accessFlags := 33
  interfaces := #[]
  cf := some (fileOf pool23 24 #[.nestMembers #[55, 131, 125, 114]] #[{ accessFlags := 1, nameIndex := 5, descriptorIndex := 6, attributes := #[] }, { accessFlags := 9, nameIndex := 33, descriptorIndex := 178, attributes := #[] }] 33 2 #[] #[{ accessFlags := 25, nameIndex := 123, descriptorIndex := 124, attributes := #[] }, { accessFlags := 25, nameIndex := 130, descriptorIndex := 124, attributes := #[] }, { accessFlags := 25, nameIndex := 136, descriptorIndex := 124, attributes := #[] }])
  fields := #[{ name := "SIOOBE_FORMATTER", type := (.object "java/util/function/BiFunction"), accessFlags := 25, slot := 0, constantValue := 0 }, { name := "AIOOBE_FORMATTER", type := (.object "java/util/function/BiFunction"), accessFlags := 25, slot := 1, constantValue := 0 }, { name := "IOOBE_FORMATTER", type := (.object "java/util/function/BiFunction"), accessFlags := 25, slot := 2, constantValue := 0 }]
  methods := #[k23m0, k23m1]
  instanceTypes := #[]
  staticTypes := #[(.object "java/util/function/BiFunction"), (.object "java/util/function/BiFunction"), (.object "java/util/function/BiFunction")]
  resolved := Array.replicate 194 none
  statics := some 2 }

def pool24 : Array CpInfo := pool [(9, u "<init>"), (6, .class_ 18), (1, u "java/lang/Object"), (0, u "()V"), (1, .class_ 23), (1, u "jdk/internal/util/ArraysSupport"), (0, u "LOG2_ARRAY_LONG_INDEX_SCALE"), (0, u "I"), (2, u "U"), (0, u "Ljdk/internal/misc/Unsafe;"), (8, u "BIG_ENDIAN"), (0, u "Z"), (8, u "LOG2_BYTE_BIT_SIZE"), (4, u "LOG2_ARRAY_INT_INDEX_SCALE"), (54, u "JLA"), (0, u "Ljdk/internal/access/JavaLangAccess;"), (11, u "LOG2_ARRAY_BOOLEAN_INDEX_SCALE"), (9, u "LOG2_ARRAY_BYTE_INDEX_SCALE"), (5, u "LOG2_ARRAY_CHAR_INDEX_SCALE"), (5, u "LOG2_ARRAY_SHORT_INDEX_SCALE"), (18, u "LOG2_ARRAY_FLOAT_INDEX_SCALE"), (24, u "LOG2_ARRAY_DOUBLE_INDEX_SCALE"), (89, u "T_BOOLEAN"), (2, u "T_CHAR"), (1, u "T_FLOAT"), (1, u "T_DOUBLE"), (1, u "T_BYTE"), (1, u "T_SHORT"), (1, u "T_INT"), (1, u "T_LONG"), (1, u "SOFT_MAX_ARRAY_LENGTH")] 83

def k24m0 : Method := { name := "<init>", desc := "()V", sig := { parameters := [], returnType := none }, accessFlags := 2, code := none }
/-- jdk/internal/util/ArraysSupport -/
def k24 : Class := { plain "jdk/internal/util/ArraysSupport" (some 0) with
  accessFlags := 33
  interfaces := #[]
  cf := some (fileOf pool24 21 #[] #[{ accessFlags := 2, nameIndex := 9, descriptorIndex := 19, attributes := #[] }] 33 16 #[] #[{ accessFlags := 24, nameIndex := 28, descriptorIndex := 29, attributes := #[] }, { accessFlags := 26, nameIndex := 38, descriptorIndex := 39, attributes := #[] }, { accessFlags := 25, nameIndex := 121, descriptorIndex := 25, attributes := #[] }, { accessFlags := 25, nameIndex := 131, descriptorIndex := 25, attributes := #[] }, { accessFlags := 25, nameIndex := 137, descriptorIndex := 25, attributes := #[] }, { accessFlags := 25, nameIndex := 143, descriptorIndex := 25, attributes := #[] }, { accessFlags := 25, nameIndex := 53, descriptorIndex := 25, attributes := #[] }, { accessFlags := 25, nameIndex := 24, descriptorIndex := 25, attributes := #[] }, { accessFlags := 25, nameIndex := 162, descriptorIndex := 25, attributes := #[] }, { accessFlags := 25, nameIndex := 187, descriptorIndex := 25, attributes := #[] }, { accessFlags := 26, nameIndex := 48, descriptorIndex := 25, attributes := #[] }, { accessFlags := 25, nameIndex := 277, descriptorIndex := 25, attributes := #[] }, { accessFlags := 25, nameIndex := 280, descriptorIndex := 25, attributes := #[] }, { accessFlags := 25, nameIndex := 282, descriptorIndex := 25, attributes := #[] }, { accessFlags := 25, nameIndex := 284, descriptorIndex := 25, attributes := #[] }, { accessFlags := 25, nameIndex := 286, descriptorIndex := 25, attributes := #[] }, { accessFlags := 25, nameIndex := 288, descriptorIndex := 25, attributes := #[] }, { accessFlags := 25, nameIndex := 290, descriptorIndex := 25, attributes := #[] }, { accessFlags := 25, nameIndex := 292, descriptorIndex := 25, attributes := #[] }, { accessFlags := 26, nameIndex := 108, descriptorIndex := 109, attributes := #[] }, { accessFlags := 25, nameIndex := 294, descriptorIndex := 25, attributes := #[] }])
  fields := #[{ name := "U", type := (.object "jdk/internal/misc/Unsafe"), accessFlags := 24, slot := 0, constantValue := 0 }, { name := "BIG_ENDIAN", type := .boolean, accessFlags := 26, slot := 1, constantValue := 0 }, { name := "LOG2_ARRAY_BOOLEAN_INDEX_SCALE", type := .int, accessFlags := 25, slot := 2, constantValue := 0 }, { name := "LOG2_ARRAY_BYTE_INDEX_SCALE", type := .int, accessFlags := 25, slot := 3, constantValue := 0 }, { name := "LOG2_ARRAY_CHAR_INDEX_SCALE", type := .int, accessFlags := 25, slot := 4, constantValue := 0 }, { name := "LOG2_ARRAY_SHORT_INDEX_SCALE", type := .int, accessFlags := 25, slot := 5, constantValue := 0 }, { name := "LOG2_ARRAY_INT_INDEX_SCALE", type := .int, accessFlags := 25, slot := 6, constantValue := 0 }, { name := "LOG2_ARRAY_LONG_INDEX_SCALE", type := .int, accessFlags := 25, slot := 7, constantValue := 0 }, { name := "LOG2_ARRAY_FLOAT_INDEX_SCALE", type := .int, accessFlags := 25, slot := 8, constantValue := 0 }, { name := "LOG2_ARRAY_DOUBLE_INDEX_SCALE", type := .int, accessFlags := 25, slot := 9, constantValue := 0 }, { name := "LOG2_BYTE_BIT_SIZE", type := .int, accessFlags := 26, slot := 10, constantValue := 0 }, { name := "T_BOOLEAN", type := .int, accessFlags := 25, slot := 11, constantValue := 0 }, { name := "T_CHAR", type := .int, accessFlags := 25, slot := 12, constantValue := 0 }, { name := "T_FLOAT", type := .int, accessFlags := 25, slot := 13, constantValue := 0 }, { name := "T_DOUBLE", type := .int, accessFlags := 25, slot := 14, constantValue := 0 }, { name := "T_BYTE", type := .int, accessFlags := 25, slot := 15, constantValue := 0 }, { name := "T_SHORT", type := .int, accessFlags := 25, slot := 16, constantValue := 0 }, { name := "T_INT", type := .int, accessFlags := 25, slot := 17, constantValue := 0 }, { name := "T_LONG", type := .int, accessFlags := 25, slot := 18, constantValue := 0 }, { name := "JLA", type := (.object "jdk/internal/access/JavaLangAccess"), accessFlags := 26, slot := 19, constantValue := 0 }, { name := "SOFT_MAX_ARRAY_LENGTH", type := .int, accessFlags := 25, slot := 20, constantValue := 0 }]
  methods := #[k24m0]
  instanceTypes := #[]
  staticTypes := #[(.object "jdk/internal/misc/Unsafe"), .boolean, .int, .int, .int, .int, .int, .int, .int, .int, .int, .int, .int, .int, .int, .int, .int, .int, .int, (.object "jdk/internal/access/JavaLangAccess"), .int]
  resolved := Array.replicate 378 none
  statics := none }

/-- the primitive byte -/
def k25 : Class := { plain "byte" none with kind := .primitive 'B', accessFlags := 0x411 }
/-- [B -/
def k26 : Class := { plain "[B" (some 0) with kind := .array 25 .byte, interfaces := #[16, 2], accessFlags := 1041 }

/-- the primitive char -/
def k27 : Class := { plain "char" none with kind := .primitive 'C', accessFlags := 0x411 }
/-- [C -/
def k28 : Class := { plain "[C" (some 0) with kind := .array 27 .char, interfaces := #[16, 2], accessFlags := 1041 }

/-- the primitive int -/
def k29 : Class := { plain "int" none with kind := .primitive 'I', accessFlags := 0x411 }
/-- [I -/
def k30 : Class := { plain "[I" (some 0) with kind := .array 29 .int, interfaces := #[16, 2], accessFlags := 1041 }

/-- [Ljava/lang/Object; -/
def k31 : Class := { plain "[Ljava/lang/Object;" (some 0) with kind := .array 0 (.object "java/lang/Object"), interfaces := #[16, 2], accessFlags := 1041 }

def heap : Heap := #[{ cls := 7, slots := #[.long 0, .int 1, .null, .int 0, .null, .int 0, .int 0], vm := .statics 7 },
  { cls := 17, slots := #[.long 0, .int 0, .ref 3, .ref 4], vm := .statics 17 },
  { cls := 23, slots := #[.null, .null, .null], vm := .statics 23 },
  { cls := 31, slots := #[], vm := .none },
  { cls := 31, slots := #[], vm := .none }]
def classes : Array Class := #[k0, k1, k2, k3, k4, k5, k6, k7, k8, k9, k10, k11, k12, k13, k14, k15, k16, k17, k18, k19, k20, k21, k22, k23, k24, k25, k26, k27, k28, k29, k30, k31]
def interned : List (Array UInt16 × Addr) := []
def slotsUsed : Nat := 14
def theMethod : MethodId := ⟨1, 2⟩
def args0 : Array Value := #[.int 5, .int 6, .int 7, .int 8, .int 9]
def aboutOver (below : List Frame) : State where
  vm := { classes := classes, interned := interned.toArray }
  heap := heap
  slotsUsed := slotsUsed
  threads := #[{ frames := .invoking theMethod args0 :: below }]
def below0 : List Frame := [.native { method := ⟨0, 0⟩, args := #[] }]
def about1 : State := aboutOver below0
def p0 : Program := .bare "" "" ""
def e0 : Env := launch0.env 0 0 0
theorem w_frames : about1.frames = Frame.invoking theMethod args0 :: below0 := rfl
set_option maxRecDepth 65536 in
theorem w_args : argsFit about1.vm theMethod args0 = true := by decide +kernel
set_option maxRecDepth 65536 in
theorem w_heap : heapFits about1 = true := by decide +kernel
set_option maxRecDepth 65536 in
theorem w_runnable : about1.curStatus? = some .runnable := by decide +kernel
set_option maxRecDepth 65536 in
theorem w_alone : about1.alone = true := by decide +kernel
set_option maxRecDepth 65536 in
theorem w_named : about1.methodNamed? x = some theMethod := by decide +kernel
set_option maxRecDepth 65536 in
theorem w_hears : about1.hears theMethod below0 = true := by decide +kernel
set_option maxRecDepth 65536 in
theorem w_ripe : about1.ripe theMethod args0 below0 = true := by decide +kernel
theorem w_running : about1.status = .running := rfl
set_option maxRecDepth 65536 in
theorem w_room : about1.hasRoom e0.platform room_1 = true :=
  launch0.hasRoom_least _ room_1 (by decide +kernel) (by decide +kernel) (by decide +kernel) (by decide +kernel) (by decide +kernel) (by decide +kernel)
theorem allAtoms_all (ts : List Jvm.Cond) (a : Array Jvm.Value) (st : Jvm.State) : (allAtoms ts).before a st = ts.all (fun c => c.before a st) := by
  induction ts with
  | nil => rfl
  | cons c t ih =>
    show (Jvm.Cond.and c (allAtoms t)).before a st = _
    rw [Jvm.Cond.before_and, ih, List.all_cons]
def words1 : List Jvm.Cond := Jvm.Cond.code x code maxLocals ret :: tables_1
/-- a 'code' word, met by the world's own term for the bytes: nothing is compared byte by byte -/
theorem code_word {y : MethodName} {bytes : ByteArray} {mx : Nat} {rt : Option FieldType} {a : Array Value} {s : State} {m : MethodId} {meth : Method} {c : Code} (h1 : s.methodNamed? y = some m) (h2 : s.vm.method? m = some meth) (h3 : meth.code = some c) (h4 : c.code = bytes)
    (h5 : (c.maxLocals == mx && c.exceptionTable.isEmpty && decide (c.maxStack ≤ mostOperands) && decide (meth.sig.returnType = rt) && !meth.locks && decide (parseMethodDescriptor y.desc = some meth.sig)) = true) : (Jvm.Cond.code y bytes mx rt).before a s = true := by
  simp only [Bool.and_eq_true, beq_iff_eq, Bool.not_eq_true', decide_eq_true_eq] at h5
  obtain ⟨⟨⟨⟨⟨g1, g2⟩, g3⟩, g4⟩, g5⟩, g6⟩ := h5
  simp [Cond.before, Cond.holds, Cond.value, h1, h2, h3, h4, g1, g2, g3, g4, g5, g6]
def isCode : Jvm.Cond → Bool
  | .code _ _ _ _ => true
  | _ => false
theorem all_split {L : List Jvm.Cond} {P : Jvm.Cond → Bool} (h1 : L.all (fun c => isCode c || P c) = true) (h2 : ∀ c ∈ L.filter isCode, P c = true) : L.all P = true := by
  refine List.all_eq_true.mpr fun c hc => ?_
  have h := List.all_eq_true.mp h1 c hc
  rcases Bool.eq_false_or_eq_true (isCode c) with hi | hi
  · exact h2 c (List.mem_filter.mpr ⟨hc, hi⟩)
  · simpa [hi] using h
set_option maxRecDepth 65536 in
theorem w_c0 : (Jvm.Cond.code x code maxLocals ret).before args0 about1 = true := code_word (m := ⟨1, 2⟩) (meth := k1m2) (c := k1c2) (by decide +kernel) rfl rfl rfl (by decide +kernel)
set_option maxRecDepth 65536 in
theorem w_c1 : (Jvm.Cond.code ({ cls := "com/example/corbelpath/corbelpath/TargetFileNamePinLaw", name := "seg", desc := "(I)Ljava/lang/String;" } : Jvm.MethodName) method_2_code (2 : Nat) (Option.some (Jvm.ClassFile.FieldType.object "java/lang/String"))).before args0 about1 = true := code_word (m := ⟨1, 1⟩) (meth := k1m1) (c := k1c1) (by decide +kernel) rfl rfl rfl (by decide +kernel)
set_option maxRecDepth 65536 in
theorem w_c2 : (Jvm.Cond.code ({ cls := "java/lang/String", name := "<init>", desc := "([C)V" } : Jvm.MethodName) jdk_42_method_3_code (2 : Nat) (Option.none : Option Jvm.ClassFile.FieldType)).before args0 about1 = true := code_word (m := ⟨7, 1⟩) (meth := k7m1) (c := k7c1) (by decide +kernel) rfl rfl rfl (by decide +kernel)
set_option maxRecDepth 65536 in
theorem w_c3 : (Jvm.Cond.code ({ cls := "java/lang/String", name := "<init>", desc := "([CIILjava/lang/Void;)V" } : Jvm.MethodName) jdk_42_method_149_code (6 : Nat) (Option.none : Option Jvm.ClassFile.FieldType)).before args0 about1 = true := code_word (m := ⟨7, 4⟩) (meth := k7m4) (c := k7c4) (by decide +kernel) rfl rfl rfl (by decide +kernel)
set_option maxRecDepth 65536 in
theorem w_c4 : (Jvm.Cond.code ({ cls := "java/lang/Object", name := "<init>", desc := "()V" } : Jvm.MethodName) object_method_1_code (1 : Nat) (Option.none : Option Jvm.ClassFile.FieldType)).before args0 about1 = true := code_word (m := ⟨0, 0⟩) (meth := k0m0) (c := k0c0) (by decide +kernel) rfl rfl rfl (by decide +kernel)
set_option maxRecDepth 65536 in
theorem w_c5 : (Jvm.Cond.code ({ cls := "java/lang/StringUTF16", name := "compress", desc := "([CII)[B" } : Jvm.MethodName) jdk_52_method_16_code (6 : Nat) (Option.some (Jvm.ClassFile.FieldType.array Jvm.ClassFile.FieldType.byte))).before args0 about1 = true := code_word (m := ⟨8, 2⟩) (meth := k8m2) (c := k8c2) (by decide +kernel) rfl rfl rfl (by decide +kernel)
set_option maxRecDepth 65536 in
theorem w_c6 : (Jvm.Cond.code ({ cls := "java/lang/StringUTF16", name := "compress", desc := "([CI[BII)I" } : Jvm.MethodName) jdk_52_method_21_code (7 : Nat) (Option.some Jvm.ClassFile.FieldType.int)).before args0 about1 = true := code_word (m := ⟨8, 3⟩) (meth := k8m3) (c := k8c3) (by decide +kernel) rfl rfl rfl (by decide +kernel)
set_option maxRecDepth 65536 in
theorem w_c7 : (Jvm.Cond.code ({ cls := "java/lang/StringUTF16", name := "coderFromArrayLen", desc := "([BI)B" } : Jvm.MethodName) jdk_52_method_15_code (2 : Nat) (Option.some Jvm.ClassFile.FieldType.byte)).before args0 about1 = true := code_word (m := ⟨8, 1⟩) (meth := k8m1) (c := k8c1) (by decide +kernel) rfl rfl rfl (by decide +kernel)
set_option maxRecDepth 65536 in
theorem w_c8 : (Jvm.Cond.code ({ cls := "java/util/ArrayList", name := "<init>", desc := "()V" } : Jvm.MethodName) jdk_38_method_2_code (1 : Nat) (Option.none : Option Jvm.ClassFile.FieldType)).before args0 about1 = true := code_word (m := ⟨17, 0⟩) (meth := k17m0) (c := k17c0) (by decide +kernel) rfl rfl rfl (by decide +kernel)
set_option maxRecDepth 65536 in
theorem w_c9 : (Jvm.Cond.code ({ cls := "java/util/AbstractList", name := "<init>", desc := "()V" } : Jvm.MethodName) jdk_39_method_1_code (1 : Nat) (Option.none : Option Jvm.ClassFile.FieldType)).before args0 about1 = true := code_word (m := ⟨14, 0⟩) (meth := k14m0) (c := k14c0) (by decide +kernel) rfl rfl rfl (by decide +kernel)
set_option maxRecDepth 65536 in
theorem w_c10 : (Jvm.Cond.code ({ cls := "java/util/AbstractCollection", name := "<init>", desc := "()V" } : Jvm.MethodName) jdk_22_method_1_code (1 : Nat) (Option.none : Option Jvm.ClassFile.FieldType)).before args0 about1 = true := code_word (m := ⟨11, 0⟩) (meth := k11m0) (c := k11c0) (by decide +kernel) rfl rfl rfl (by decide +kernel)
set_option maxRecDepth 65536 in
theorem w_c11 : (Jvm.Cond.code ({ cls := "java/util/ArrayList", name := "add", desc := "(Ljava/lang/Object;)Z" } : Jvm.MethodName) jdk_38_method_25_code (2 : Nat) (Option.some Jvm.ClassFile.FieldType.boolean)).before args0 about1 = true := code_word (m := ⟨17, 7⟩) (meth := k17m7) (c := k17c7) (by decide +kernel) rfl rfl rfl (by decide +kernel)
set_option maxRecDepth 65536 in
theorem w_c12 : (Jvm.Cond.code ({ cls := "java/util/ArrayList", name := "add", desc := "(Ljava/lang/Object;[Ljava/lang/Object;I)V" } : Jvm.MethodName) jdk_38_method_24_code (4 : Nat) (Option.none : Option Jvm.ClassFile.FieldType)).before args0 about1 = true := code_word (m := ⟨17, 6⟩) (meth := k17m6) (c := k17c6) (by decide +kernel) rfl rfl rfl (by decide +kernel)
set_option maxRecDepth 65536 in
theorem w_c13 : (Jvm.Cond.code ({ cls := "java/util/ArrayList", name := "grow", desc := "()[Ljava/lang/Object;" } : Jvm.MethodName) jdk_38_method_7_code (1 : Nat) (Option.some (Jvm.ClassFile.FieldType.array (Jvm.ClassFile.FieldType.object "java/lang/Object")))).before args0 about1 = true := code_word (m := ⟨17, 2⟩) (meth := k17m2) (c := k17c2) (by decide +kernel) rfl rfl rfl (by decide +kernel)
set_option maxRecDepth 65536 in
theorem w_c14 : (Jvm.Cond.code ({ cls := "java/util/ArrayList", name := "grow", desc := "(I)[Ljava/lang/Object;" } : Jvm.MethodName) jdk_38_method_6_code (4 : Nat) (Option.some (Jvm.ClassFile.FieldType.array (Jvm.ClassFile.FieldType.object "java/lang/Object")))).before args0 about1 = true := code_word (m := ⟨17, 1⟩) (meth := k17m1) (c := k17c1) (by decide +kernel) rfl rfl rfl (by decide +kernel)
set_option maxRecDepth 65536 in
theorem w_c15 : (Jvm.Cond.code ({ cls := "java/lang/Math", name := "max", desc := "(II)I" } : Jvm.MethodName) jdk_29_method_65_code (2 : Nat) (Option.some Jvm.ClassFile.FieldType.int)).before args0 about1 = true := code_word (m := ⟨18, 1⟩) (meth := k18m1) (c := k18c1) (by decide +kernel) rfl rfl rfl (by decide +kernel)
set_option maxRecDepth 65536 in
theorem w_c16 : (Jvm.Cond.code ({ cls := "java/lang/String", name := "valueOf", desc := "(C)Ljava/lang/String;" } : Jvm.MethodName) jdk_42_method_139_code (1 : Nat) (Option.some (Jvm.ClassFile.FieldType.object "java/lang/String"))).before args0 about1 = true := code_word (m := ⟨7, 3⟩) (meth := k7m3) (c := k7c3) (by decide +kernel) rfl rfl rfl (by decide +kernel)
set_option maxRecDepth 65536 in
theorem w_c17 : (Jvm.Cond.code ({ cls := "java/lang/StringLatin1", name := "canEncode", desc := "(C)Z" } : Jvm.MethodName) jdk_43_method_3_code (1 : Nat) (Option.some Jvm.ClassFile.FieldType.boolean)).before args0 about1 = true := code_word (m := ⟨19, 1⟩) (meth := k19m1) (c := k19c1) (by decide +kernel) rfl rfl rfl (by decide +kernel)
set_option maxRecDepth 65536 in
theorem w_c18 : (Jvm.Cond.code ({ cls := "java/lang/StringLatin1", name := "toBytes", desc := "(C)[B" } : Jvm.MethodName) jdk_43_method_46_code (1 : Nat) (Option.some (Jvm.ClassFile.FieldType.array Jvm.ClassFile.FieldType.byte))).before args0 about1 = true := code_word (m := ⟨19, 2⟩) (meth := k19m2) (c := k19c2) (by decide +kernel) rfl rfl rfl (by decide +kernel)
set_option maxRecDepth 65536 in
theorem w_c19 : (Jvm.Cond.code ({ cls := "java/lang/String", name := "<init>", desc := "([BB)V" } : Jvm.MethodName) jdk_42_method_151_code (3 : Nat) (Option.none : Option Jvm.ClassFile.FieldType)).before args0 about1 = true := code_word (m := ⟨7, 5⟩) (meth := k7m5) (c := k7c5) (by decide +kernel) rfl rfl rfl (by decide +kernel)
set_option maxRecDepth 65536 in
theorem w_c20 : (Jvm.Cond.code ({ cls := "com/example/corbelpath/corbelpath/Deployment$Target", name := "<init>", desc := "(Ljava/lang/String;Ljava/lang/String;Ljava/lang/String;Ljava/util/List;)V" } : Jvm.MethodName) prog_27_method_1_code (5 : Nat) (Option.none : Option Jvm.ClassFile.FieldType)).before args0 about1 = true := code_word (m := ⟨21, 0⟩) (meth := k21m0) (c := k21c0) (by decide +kernel) rfl rfl rfl (by decide +kernel)
set_option maxRecDepth 65536 in
theorem w_c21 : (Jvm.Cond.code ({ cls := "java/lang/Record", name := "<init>", desc := "()V" } : Jvm.MethodName) jdk_30_method_1_code (1 : Nat) (Option.none : Option Jvm.ClassFile.FieldType)).before args0 about1 = true := code_word (m := ⟨20, 0⟩) (meth := k20m0) (c := k20c0) (by decide +kernel) rfl rfl rfl (by decide +kernel)
set_option maxRecDepth 65536 in
theorem w_c22 : (Jvm.Cond.code ({ cls := "com/example/corbelpath/corbelpath/Deployment$Target", name := "fileName", desc := "()Ljava/lang/String;" } : Jvm.MethodName) prog_27_method_4_code (1 : Nat) (Option.some (Jvm.ClassFile.FieldType.object "java/lang/String"))).before args0 about1 = true := code_word (m := ⟨21, 1⟩) (meth := k21m1) (c := k21c1) (by decide +kernel) rfl rfl rfl (by decide +kernel)
set_option maxRecDepth 65536 in
theorem w_c23 : (Jvm.Cond.code ({ cls := "java/util/ArrayList", name := "size", desc := "()I" } : Jvm.MethodName) jdk_38_method_8_code (1 : Nat) (Option.some Jvm.ClassFile.FieldType.int)).before args0 about1 = true := code_word (m := ⟨17, 3⟩) (meth := k17m3) (c := k17c3) (by decide +kernel) rfl rfl rfl (by decide +kernel)
set_option maxRecDepth 65536 in
theorem w_c24 : (Jvm.Cond.code ({ cls := "java/util/ArrayList", name := "get", desc := "(I)Ljava/lang/Object;" } : Jvm.MethodName) jdk_38_method_20_code (2 : Nat) (Option.some (Jvm.ClassFile.FieldType.object "java/lang/Object"))).before args0 about1 = true := code_word (m := ⟨17, 5⟩) (meth := k17m5) (c := k17c5) (by decide +kernel) rfl rfl rfl (by decide +kernel)
set_option maxRecDepth 65536 in
theorem w_c25 : (Jvm.Cond.code ({ cls := "java/util/Objects", name := "checkIndex", desc := "(II)I" } : Jvm.MethodName) jdk_31_method_17_code (2 : Nat) (Option.some Jvm.ClassFile.FieldType.int)).before args0 about1 = true := code_word (m := ⟨22, 1⟩) (meth := k22m1) (c := k22c1) (by decide +kernel) rfl rfl rfl (by decide +kernel)
set_option maxRecDepth 65536 in
theorem w_c26 : (Jvm.Cond.code ({ cls := "jdk/internal/util/Preconditions", name := "checkIndex", desc := "(IILjava/util/function/BiFunction;)I" } : Jvm.MethodName) jdk_41_method_11_code (3 : Nat) (Option.some Jvm.ClassFile.FieldType.int)).before args0 about1 = true := code_word (m := ⟨23, 1⟩) (meth := k23m1) (c := k23c1) (by decide +kernel) rfl rfl rfl (by decide +kernel)
set_option maxRecDepth 65536 in
theorem w_c27 : (Jvm.Cond.code ({ cls := "java/util/ArrayList", name := "elementData", desc := "(I)Ljava/lang/Object;" } : Jvm.MethodName) jdk_38_method_18_code (2 : Nat) (Option.some (Jvm.ClassFile.FieldType.object "java/lang/Object"))).before args0 about1 = true := code_word (m := ⟨17, 4⟩) (meth := k17m4) (c := k17c4) (by decide +kernel) rfl rfl rfl (by decide +kernel)
set_option maxRecDepth 65536 in
theorem w_c28 : (Jvm.Cond.code ({ cls := "java/lang/String", name := "equals", desc := "(Ljava/lang/Object;)Z" } : Jvm.MethodName) jdk_42_method_66_code (3 : Nat) (Option.some Jvm.ClassFile.FieldType.boolean)).before args0 about1 = true := code_word (m := ⟨7, 2⟩) (meth := k7m2) (c := k7c2) (by decide +kernel) rfl rfl rfl (by decide +kernel)
def codes1 : List Jvm.Cond := [Jvm.Cond.code x code maxLocals ret, Jvm.Cond.code ({ cls := "com/example/corbelpath/corbelpath/TargetFileNamePinLaw", name := "seg", desc := "(I)Ljava/lang/String;" } : Jvm.MethodName) method_2_code (2 : Nat) (Option.some (Jvm.ClassFile.FieldType.object "java/lang/String")), Jvm.Cond.code ({ cls := "java/lang/String", name := "<init>", desc := "([C)V" } : Jvm.MethodName) jdk_42_method_3_code (2 : Nat) (Option.none : Option Jvm.ClassFile.FieldType), Jvm.Cond.code ({ cls := "java/lang/String", name := "<init>", desc := "([CIILjava/lang/Void;)V" } : Jvm.MethodName) jdk_42_method_149_code (6 : Nat) (Option.none : Option Jvm.ClassFile.FieldType), Jvm.Cond.code ({ cls := "java/lang/Object", name := "<init>", desc := "()V" } : Jvm.MethodName) object_method_1_code (1 : Nat) (Option.none : Option Jvm.ClassFile.FieldType), Jvm.Cond.code ({ cls := "java/lang/StringUTF16", name := "compress", desc := "([CII)[B" } : Jvm.MethodName) jdk_52_method_16_code (6 : Nat) (Option.some (Jvm.ClassFile.FieldType.array Jvm.ClassFile.FieldType.byte)), Jvm.Cond.code ({ cls := "java/lang/StringUTF16", name := "compress", desc := "([CI[BII)I" } : Jvm.MethodName) jdk_52_method_21_code (7 : Nat) (Option.some Jvm.ClassFile.FieldType.int), Jvm.Cond.code ({ cls := "java/lang/StringUTF16", name := "coderFromArrayLen", desc := "([BI)B" } : Jvm.MethodName) jdk_52_method_15_code (2 : Nat) (Option.some Jvm.ClassFile.FieldType.byte), Jvm.Cond.code ({ cls := "java/util/ArrayList", name := "<init>", desc := "()V" } : Jvm.MethodName) jdk_38_method_2_code (1 : Nat) (Option.none : Option Jvm.ClassFile.FieldType), Jvm.Cond.code ({ cls := "java/util/AbstractList", name := "<init>", desc := "()V" } : Jvm.MethodName) jdk_39_method_1_code (1 : Nat) (Option.none : Option Jvm.ClassFile.FieldType), Jvm.Cond.code ({ cls := "java/util/AbstractCollection", name := "<init>", desc := "()V" } : Jvm.MethodName) jdk_22_method_1_code (1 : Nat) (Option.none : Option Jvm.ClassFile.FieldType), Jvm.Cond.code ({ cls := "java/util/ArrayList", name := "add", desc := "(Ljava/lang/Object;)Z" } : Jvm.MethodName) jdk_38_method_25_code (2 : Nat) (Option.some Jvm.ClassFile.FieldType.boolean), Jvm.Cond.code ({ cls := "java/util/ArrayList", name := "add", desc := "(Ljava/lang/Object;[Ljava/lang/Object;I)V" } : Jvm.MethodName) jdk_38_method_24_code (4 : Nat) (Option.none : Option Jvm.ClassFile.FieldType), Jvm.Cond.code ({ cls := "java/util/ArrayList", name := "grow", desc := "()[Ljava/lang/Object;" } : Jvm.MethodName) jdk_38_method_7_code (1 : Nat) (Option.some (Jvm.ClassFile.FieldType.array (Jvm.ClassFile.FieldType.object "java/lang/Object"))), Jvm.Cond.code ({ cls := "java/util/ArrayList", name := "grow", desc := "(I)[Ljava/lang/Object;" } : Jvm.MethodName) jdk_38_method_6_code (4 : Nat) (Option.some (Jvm.ClassFile.FieldType.array (Jvm.ClassFile.FieldType.object "java/lang/Object"))), Jvm.Cond.code ({ cls := "java/lang/Math", name := "max", desc := "(II)I" } : Jvm.MethodName) jdk_29_method_65_code (2 : Nat) (Option.some Jvm.ClassFile.FieldType.int), Jvm.Cond.code ({ cls := "java/lang/String", name := "valueOf", desc := "(C)Ljava/lang/String;" } : Jvm.MethodName) jdk_42_method_139_code (1 : Nat) (Option.some (Jvm.ClassFile.FieldType.object "java/lang/String")), Jvm.Cond.code ({ cls := "java/lang/StringLatin1", name := "canEncode", desc := "(C)Z" } : Jvm.MethodName) jdk_43_method_3_code (1 : Nat) (Option.some Jvm.ClassFile.FieldType.boolean), Jvm.Cond.code ({ cls := "java/lang/StringLatin1", name := "toBytes", desc := "(C)[B" } : Jvm.MethodName) jdk_43_method_46_code (1 : Nat) (Option.some (Jvm.ClassFile.FieldType.array Jvm.ClassFile.FieldType.byte)), Jvm.Cond.code ({ cls := "java/lang/String", name := "<init>", desc := "([BB)V" } : Jvm.MethodName) jdk_42_method_151_code (3 : Nat) (Option.none : Option Jvm.ClassFile.FieldType), Jvm.Cond.code ({ cls := "com/example/corbelpath/corbelpath/Deployment$Target", name := "<init>", desc := "(Ljava/lang/String;Ljava/lang/String;Ljava/lang/String;Ljava/util/List;)V" } : Jvm.MethodName) prog_27_method_1_code (5 : Nat) (Option.none : Option Jvm.ClassFile.FieldType), Jvm.Cond.code ({ cls := "java/lang/Record", name := "<init>", desc := "()V" } : Jvm.MethodName) jdk_30_method_1_code (1 : Nat) (Option.none : Option Jvm.ClassFile.FieldType), Jvm.Cond.code ({ cls := "com/example/corbelpath/corbelpath/Deployment$Target", name := "fileName", desc := "()Ljava/lang/String;" } : Jvm.MethodName) prog_27_method_4_code (1 : Nat) (Option.some (Jvm.ClassFile.FieldType.object "java/lang/String")), Jvm.Cond.code ({ cls := "java/util/ArrayList", name := "size", desc := "()I" } : Jvm.MethodName) jdk_38_method_8_code (1 : Nat) (Option.some Jvm.ClassFile.FieldType.int), Jvm.Cond.code ({ cls := "java/util/ArrayList", name := "get", desc := "(I)Ljava/lang/Object;" } : Jvm.MethodName) jdk_38_method_20_code (2 : Nat) (Option.some (Jvm.ClassFile.FieldType.object "java/lang/Object")), Jvm.Cond.code ({ cls := "java/util/Objects", name := "checkIndex", desc := "(II)I" } : Jvm.MethodName) jdk_31_method_17_code (2 : Nat) (Option.some Jvm.ClassFile.FieldType.int), Jvm.Cond.code ({ cls := "jdk/internal/util/Preconditions", name := "checkIndex", desc := "(IILjava/util/function/BiFunction;)I" } : Jvm.MethodName) jdk_41_method_11_code (3 : Nat) (Option.some Jvm.ClassFile.FieldType.int), Jvm.Cond.code ({ cls := "java/util/ArrayList", name := "elementData", desc := "(I)Ljava/lang/Object;" } : Jvm.MethodName) jdk_38_method_18_code (2 : Nat) (Option.some (Jvm.ClassFile.FieldType.object "java/lang/Object")), Jvm.Cond.code ({ cls := "java/lang/String", name := "equals", desc := "(Ljava/lang/Object;)Z" } : Jvm.MethodName) jdk_42_method_66_code (3 : Nat) (Option.some Jvm.ClassFile.FieldType.boolean)]
set_option maxRecDepth 65536 in
theorem codes_eq : words1.filter isCode = codes1 := rfl
theorem w_codes : ∀ c ∈ words1.filter isCode, c.before args0 about1 = true := by
  rw [codes_eq]
  intro c hc
  simp only [codes1, List.mem_cons, List.not_mem_nil, or_false] at hc
  rcases hc with rfl | rfl | rfl | rfl | rfl | rfl | rfl | rfl | rfl | rfl | rfl | rfl | rfl | rfl | rfl | rfl | rfl | rfl | rfl | rfl | rfl | rfl | rfl | rfl | rfl | rfl | rfl | rfl | rfl
  · exact w_c0
  · exact w_c1
  · exact w_c2
  · exact w_c3
  · exact w_c4
  · exact w_c5
  · exact w_c6
  · exact w_c7
  · exact w_c8
  · exact w_c9
  · exact w_c10
  · exact w_c11
  · exact w_c12
  · exact w_c13
  · exact w_c14
  · exact w_c15
  · exact w_c16
  · exact w_c17
  · exact w_c18
  · exact w_c19
  · exact w_c20
  · exact w_c21
  · exact w_c22
  · exact w_c23
  · exact w_c24
  · exact w_c25
  · exact w_c26
  · exact w_c27
  · exact w_c28
set_option maxRecDepth 65536 in
theorem w_t1 : (words1.take 24).all (fun c => isCode c || c.before args0 about1) = true := by decide +kernel
set_option maxRecDepth 65536 in
theorem w_t2 : ((words1.drop 24).take 24).all (fun c => isCode c || c.before args0 about1) = true := by decide +kernel
set_option maxRecDepth 65536 in
theorem w_t3 : (((words1.drop 24).drop 24).take 24).all (fun c => isCode c || c.before args0 about1) = true := by decide +kernel
set_option maxRecDepth 65536 in
theorem w_t4 : ((((words1.drop 24).drop 24).drop 24).take 24).all (fun c => isCode c || c.before args0 about1) = true := by decide +kernel
set_option maxRecDepth 65536 in
theorem w_t5 : (((((words1.drop 24).drop 24).drop 24).drop 24).take 24).all (fun c => isCode c || c.before args0 about1) = true := by decide +kernel
set_option maxRecDepth 65536 in
theorem w_t6 : ((((((words1.drop 24).drop 24).drop 24).drop 24).drop 24).take 24).all (fun c => isCode c || c.before args0 about1) = true := by decide +kernel
set_option maxRecDepth 65536 in
theorem w_t7 : ((((((words1.drop 24).drop 24).drop 24).drop 24).drop 24).drop 24).all (fun c => isCode c || c.before args0 about1) = true := by decide +kernel
theorem w_tables : (allAtoms (Jvm.Cond.code x code maxLocals ret :: tables_1)).before args0 about1 = true := by
  rw [allAtoms_all]
  show words1.all (fun c => c.before args0 about1) = true
  refine all_split ?_ w_codes
  rw [← List.take_append_drop 24 words1, List.all_append, w_t1, ← List.take_append_drop 24 (words1.drop 24), List.all_append, w_t2, ← List.take_append_drop 24 ((words1.drop 24).drop 24), List.all_append, w_t3, ← List.take_append_drop 24 (((words1.drop 24).drop 24).drop 24), List.all_append, w_t4, ← List.take_append_drop 24 ((((words1.drop 24).drop 24).drop 24).drop 24), List.all_append, w_t5, ← List.take_append_drop 24 (((((words1.drop 24).drop 24).drop 24).drop 24).drop 24), List.all_append, w_t6, w_t7]
  rfl
set_option maxRecDepth 65536 in
theorem w_rest : rest_1_c.before args0 about1 = true := by decide +kernel
set_option maxRecDepth 65536 in
theorem w_case : (Jvm.Cond.and given_1 narrow_1).before args0 about1 = true := by decide +kernel
theorem w_applies : (headSpec (Jvm.Cond.code x code maxLocals ret :: tables_1) room_1).applies x e0.platform about1 = true :=
  (Spec.applies_iff w_frames).mpr ⟨w_running, w_runnable, w_alone, w_named, w_hears, w_ripe, w_room, w_tables⟩
theorem atStart : AtStart classFile x code maxLocals ret World_1 tables_1 room_1 Calls_1 rest_1 Pre_1 launch0 p0 e0 about1 theMethod args0 below0 :=
  ⟨lists_1, trivial, launch0.admits_env _ _ _, launch0.least_env, fairChoices_fair.cas, fairChoices_fair.clock, w_frames, w_args, w_heap, w_applies, trivial, w_rest, w_case⟩
end start1
theorem witness_1 : WitnessClaimed_1 := ⟨start1.p0, start1.e0, start1.about1, start1.theMethod, start1.args0, start1.below0, start1.atStart⟩
end Jvm.Pilot.@@N@@
