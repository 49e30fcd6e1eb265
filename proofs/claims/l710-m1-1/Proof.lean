import JvmDerived
import JvmDerived.Pilot.@@N@@Statement
import JvmDerived.Pilot.@@N@@Code
set_option linter.unusedVariables false
set_option linter.unusedSimpArgs false
namespace Jvm.RoadKit
open Sem ClassFile Op Lib Jvm.Stand Jvm.Free Jvm.LawKit
section New
variable {p : Program} {l : Launch} {e : Env} {R : Room} {s : State} {m : MethodId} {args : Array Value} {below : List Frame} {meth : Method} {c : Code} {T : State} {locs : List Loc} {cells slots : Nat}
theorem retI (X : Stand p l e R s m args below meth c T locs cells slots) (hx : p.tables.exec = Jvm.exec) {pc : Nat} {Ls : Array Slot} {z : Int32} {rest : List Value} (hret : meth.sig.returnType = some .int) (hd : decode c.code pc = .ok (.ireturn, 1)) {fs : List Frame}
    (hl : ∀ (f : JFrame) (acts : List Action), f.method = m → f.locked = none → f.entered = [] → (doReturn e (T.setTop f) acts (some (.int z))).1 = T.setFrames fs) : Steps p.tables e below (T.setTop (mkF m pc Ls (.int z :: rest))) (T.setFrames fs) := by
  have hm' : T.vm.method? m = some meth := X.method'
  have hn : narrow .int (.int z) = .int z := rfl
  show Steps p.tables e below (T.setTop { method := m, pc := pc, locals := Ls, stack := _ :: rest, locked := none }) _
  jvm_step X.here [X.here.top, hx, hd, hm', hret, hn]
  first | (intro acts; rw [hl _ acts rfl rfl rfl]) | rw [hl _ _ rfl rfl rfl]
  exact Steps.refl _
/-- from the state A the body comes to its end, and Q holds there -/
def own_G (tb : Tables) (e : Env) (below : List Frame) (Q : Outcome → State → Prop) (A : State) : Prop := ∃ s₂ o, Steps tb e below A s₂ ∧ s₂.status = .running ∧ Ended s₂ below o ∧ Q o s₂
theorem own_fs {tb : Tables} {Q : Outcome → State → Prop} {A B : State} (h : Steps tb e below A B) (g : own_G tb e below Q B) : own_G tb e below Q A := by
  obtain ⟨s₂, o, h1, r⟩ := g
  exact ⟨s₂, o, h.trans h1, r⟩
/-- what a body's contract says of its end -/
def own_P (s : State) (QQ : Option Value → Heap → List Loc → Prop) (rc rs : Nat) (o : Outcome) (U : State) : Prop := ∃ v L, o = .returned v ∧ QQ v U.heap L ∧ FrameEnd s o U L rc rs
variable {QQ : Option Value → Heap → List Loc → Prop} {rc rs : Nat} {h : Heap}
theorem own_start {tb : Tables} {g g' : JFrame} (q : g = g') (k : own_G tb e below (own_P s QQ rc rs) (T.setTop g')) : ∃ s₂ o, Steps tb e below (T.setTop g) s₂ ∧ s₂.status = .running ∧ Ended s₂ below o ∧ ∃ v L, o = .returned v ∧ QQ v s₂.heap L ∧ FrameEnd s o s₂ L rc rs := q ▸ k
theorem own_retI (X : Stand p l e R s m args below meth c T locs cells slots) (hx : p.tables.exec = Jvm.exec) {pc : Nat} {Ls : Array Slot} {z : Int32} {rest : List Value} (hret : meth.sig.returnType = some .int) (hlk : meth.locks = false) (hd : decode c.code pc = .ok (.ireturn, 1)) (hc : cells ≤ rc) (hs : slots ≤ rs) (eT : T.heap = h) (hQ : QQ (some (.int z)) h locs) :
    own_G p.tables e below (own_P s QQ rc rs) (T.setTop (mkF m pc Ls (.int z :: rest))) := by
  obtain ⟨fs, hr, hrun, hended, hW, hsame⟩ := X.leave (v := some (.int z)) (fun h => by rw [hret] at h; cases h) hlk
  exact ⟨_, _, retI X hx hret hd hr, hrun, hended, _, _, rfl, (by show QQ _ T.heap _; rw [eT]; exact hQ), ⟨_, rfl⟩, hW, hsame.mono hc hs⟩
theorem own_retN (X : Stand p l e R s m args below meth c T locs cells slots) (hx : p.tables.exec = Jvm.exec) {pc : Nat} {Ls : Array Slot} {z : Int32} {t : FieldType} {rest : List Value} (hret : meth.sig.returnType = some t) (hlk : meth.locks = false) (ht : t = .boolean ∨ t = .byte ∨ t = .char ∨ t = .short) (hd : decode c.code pc = .ok (.ireturn, 1)) (hc : cells ≤ rc) (hs : slots ≤ rs) (eT : T.heap = h) (hQ : QQ (some (.int (nar t z))) h locs) :
    own_G p.tables e below (own_P s QQ rc rs) (T.setTop (mkF m pc Ls (.int z :: rest))) := by
  obtain ⟨fs, hr, hrun, hended, hW, hsame⟩ := X.leave (v := some (.int (nar t z))) (fun h => by rw [hret] at h; cases h) hlk
  exact ⟨_, _, retN X hx hret ht hd hr, hrun, hended, _, _, rfl, (by show QQ _ T.heap _; rw [eT]; exact hQ), ⟨_, rfl⟩, hW, hsame.mono hc hs⟩
theorem own_retJ (X : Stand p l e R s m args below meth c T locs cells slots) (hx : p.tables.exec = Jvm.exec) {pc : Nat} {Ls : Array Slot} {z : Int64} {rest : List Value} (hret : meth.sig.returnType = some .long) (hlk : meth.locks = false) (hd : decode c.code pc = .ok (.lreturn, 1)) (hc : cells ≤ rc) (hs : slots ≤ rs) (eT : T.heap = h) (hQ : QQ (some (.long z)) h locs) :
    own_G p.tables e below (own_P s QQ rc rs) (T.setTop (mkF m pc Ls (.long z :: rest))) := by
  obtain ⟨fs, hr, hrun, hended, hW, hsame⟩ := X.leave (v := some (.long z)) (fun h => by rw [hret] at h; cases h) hlk
  exact ⟨_, _, retOut X hx hret rfl (Or.inr (Or.inl ⟨rfl, rfl, z, rfl⟩)) hd hr, hrun, hended, _, _, rfl, (by show QQ _ T.heap _; rw [eT]; exact hQ), ⟨_, rfl⟩, hW, hsame.mono hc hs⟩
theorem own_narR {t : FieldType} {w : Value} (hw : w.isRef = true) : narrow t w = w := by rcases ref_cases hw with rfl | ⟨a, rfl⟩ <;> cases t <;> rfl
theorem own_fitR {t : FieldType} {w : Value} (hw : w.isRef = true) (ht : t.isReference = true := by rfl) : fits t w = true := by rcases ref_cases hw with rfl | ⟨a, rfl⟩ <;> cases t <;> first | rfl | cases ht
theorem own_retA (X : Stand p l e R s m args below meth c T locs cells slots) (hx : p.tables.exec = Jvm.exec) {pc : Nat} {Ls : Array Slot} {w : Value} {t : FieldType} {rest : List Value} (hret : meth.sig.returnType = some t) (hlk : meth.locks = false) (ht : t.isReference = true) (hw : w.isRef = true) (hd : decode c.code pc = .ok (.areturn, 1)) (hc : cells ≤ rc) (hs : slots ≤ rs) (eT : T.heap = h) (hQ : QQ (some w) h locs) :
    own_G p.tables e below (own_P s QQ rc rs) (T.setTop (mkF m pc Ls (w :: rest))) := by
  obtain ⟨fs, hr, hrun, hended, hW, hsame⟩ := X.leave (v := some w) (fun h => by rw [hret] at h; cases h) hlk
  exact ⟨_, _, retOut X hx hret (own_narR hw) (Or.inr (Or.inr (Or.inr (Or.inr ⟨rfl, ht, hw⟩)))) hd hr, hrun, hended, _, _, rfl, (by show QQ _ T.heap _; rw [eT]; exact hQ), ⟨_, rfl⟩, hW, hsame.mono hc hs⟩
theorem own_retV (X : Stand p l e R s m args below meth c T locs cells slots) (hx : p.tables.exec = Jvm.exec) {pc : Nat} {Ls : Array Slot} (hret : meth.sig.returnType = none) (hlk : meth.locks = false) (hd : decode c.code pc = .ok (.return_, 1)) (hc : cells ≤ rc) (hs : slots ≤ rs) (eT : T.heap = h) (hQ : QQ none h locs) :
    own_G p.tables e below (own_P s QQ rc rs) (T.setTop (mkF m pc Ls [])) := by
  obtain ⟨fs, hr, hrun, hended, hW, hsame⟩ := X.leave (v := none) (fun _ => rfl) hlk
  exact ⟨_, _, X.returnOut hx hret hd hr, hrun, hended, _, _, rfl, (by show QQ _ T.heap _; rw [eT]; exact hQ), ⟨_, rfl⟩, hW, hsame.mono hc hs⟩
theorem own_nar0 : nar .boolean (0 : Int32) = (0 : Int32) := rfl
theorem own_nar1 : nar .boolean (1 : Int32) = (1 : Int32) := rfl
end New
end Jvm.RoadKit
namespace Jvm.Pilot.@@N@@
open Jvm Jvm.ClassFile Sem Op Lib Jvm.Free Jvm.Stand Jvm.LawKit Jvm.RoadKit Bundle Jvm.Pilot.@@N@@.Jvm.D
theorem own_pn0 : plainName "com/example/corbelpath/corbelpath/UrlGrammar" = true := by first | (simp [plainName, overriddenIn]; done) | decide +kernel
theorem own_d1_0 : decode prog_74_method_11_code 0 = .ok (.iload_n 0, 1) := by decide +kernel
theorem own_d1_1 : decode prog_74_method_11_code 1 = .ok (.bipush 48, 2) := by decide +kernel
theorem own_d1_3 : decode prog_74_method_11_code 3 = .ok (.if_icmp .lt 14, 3) := by decide +kernel
theorem own_d1_17 : decode prog_74_method_11_code 17 = .ok (.iload_n 0, 1) := by decide +kernel
theorem own_d1_18 : decode prog_74_method_11_code 18 = .ok (.bipush 32, 2) := by decide +kernel
theorem own_d1_20 : decode prog_74_method_11_code 20 = .ok (.ior, 1) := by decide +kernel
theorem own_d1_21 : decode prog_74_method_11_code 21 = .ok (.i2c, 1) := by decide +kernel
theorem own_d1_22 : decode prog_74_method_11_code 22 = .ok (.istore_n 1, 1) := by decide +kernel
theorem own_d1_23 : decode prog_74_method_11_code 23 = .ok (.iload_n 1, 1) := by decide +kernel
theorem own_d1_24 : decode prog_74_method_11_code 24 = .ok (.bipush 97, 2) := by decide +kernel
theorem own_d1_26 : decode prog_74_method_11_code 26 = .ok (.if_icmp .lt 19, 3) := by decide +kernel
theorem own_d1_45 : decode prog_74_method_11_code 45 = .ok (.iconst (-1), 1) := by decide +kernel
theorem own_d1_46 : decode prog_74_method_11_code 46 = .ok (.ireturn, 1) := by decide +kernel
theorem own_d1_29 : decode prog_74_method_11_code 29 = .ok (.iload_n 1, 1) := by decide +kernel
theorem own_d1_30 : decode prog_74_method_11_code 30 = .ok (.bipush 102, 2) := by decide +kernel
theorem own_d1_32 : decode prog_74_method_11_code 32 = .ok (.if_icmp .gt 13, 3) := by decide +kernel
theorem own_d1_35 : decode prog_74_method_11_code 35 = .ok (.iload_n 1, 1) := by decide +kernel
theorem own_d1_36 : decode prog_74_method_11_code 36 = .ok (.bipush 97, 2) := by decide +kernel
theorem own_d1_38 : decode prog_74_method_11_code 38 = .ok (.isub, 1) := by decide +kernel
theorem own_d1_39 : decode prog_74_method_11_code 39 = .ok (.bipush 10, 2) := by decide +kernel
theorem own_d1_41 : decode prog_74_method_11_code 41 = .ok (.iadd, 1) := by decide +kernel
theorem own_d1_42 : decode prog_74_method_11_code 42 = .ok (.goto 4, 3) := by decide +kernel
theorem own_d1_6 : decode prog_74_method_11_code 6 = .ok (.iload_n 0, 1) := by decide +kernel
theorem own_d1_7 : decode prog_74_method_11_code 7 = .ok (.bipush 57, 2) := by decide +kernel
theorem own_d1_9 : decode prog_74_method_11_code 9 = .ok (.if_icmp .gt 8, 3) := by decide +kernel
theorem own_d1_12 : decode prog_74_method_11_code 12 = .ok (.iload_n 0, 1) := by decide +kernel
theorem own_d1_13 : decode prog_74_method_11_code 13 = .ok (.bipush 48, 2) := by decide +kernel
theorem own_d1_15 : decode prog_74_method_11_code 15 = .ok (.isub, 1) := by decide +kernel
theorem own_d1_16 : decode prog_74_method_11_code 16 = .ok (.ireturn, 1) := by decide +kernel
theorem own_pn1 : plainName "com/example/corbelpath/corbelpath/UrlGrammarHexDigitPinLaw" = true := by first | (simp [plainName, overriddenIn]; done) | decide +kernel
theorem own_d2_0 : decode method_3_code 0 = .ok (.iload_n 0, 1) := by decide +kernel
theorem own_d2_1 : decode method_3_code 1 = .ok (.bipush 48, 2) := by decide +kernel
theorem own_d2_3 : decode method_3_code 3 = .ok (.if_icmp .lt 14, 3) := by decide +kernel
theorem own_d2_17 : decode method_3_code 17 = .ok (.iload_n 0, 1) := by decide +kernel
theorem own_d2_18 : decode method_3_code 18 = .ok (.bipush 97, 2) := by decide +kernel
theorem own_d2_20 : decode method_3_code 20 = .ok (.if_icmp .lt 17, 3) := by decide +kernel
theorem own_d2_37 : decode method_3_code 37 = .ok (.iload_n 0, 1) := by decide +kernel
theorem own_d2_38 : decode method_3_code 38 = .ok (.bipush 65, 2) := by decide +kernel
theorem own_d2_40 : decode method_3_code 40 = .ok (.if_icmp .lt 17, 3) := by decide +kernel
theorem own_d2_57 : decode method_3_code 57 = .ok (.iconst (-1), 1) := by decide +kernel
theorem own_d2_58 : decode method_3_code 58 = .ok (.ireturn, 1) := by decide +kernel
theorem own_d2_43 : decode method_3_code 43 = .ok (.iload_n 0, 1) := by decide +kernel
theorem own_d2_44 : decode method_3_code 44 = .ok (.bipush 70, 2) := by decide +kernel
theorem own_d2_46 : decode method_3_code 46 = .ok (.if_icmp .gt 11, 3) := by decide +kernel
theorem own_d2_49 : decode method_3_code 49 = .ok (.iload_n 0, 1) := by decide +kernel
theorem own_d2_50 : decode method_3_code 50 = .ok (.bipush 65, 2) := by decide +kernel
theorem own_d2_52 : decode method_3_code 52 = .ok (.isub, 1) := by decide +kernel
theorem own_d2_53 : decode method_3_code 53 = .ok (.bipush 10, 2) := by decide +kernel
theorem own_d2_55 : decode method_3_code 55 = .ok (.iadd, 1) := by decide +kernel
theorem own_d2_56 : decode method_3_code 56 = .ok (.ireturn, 1) := by decide +kernel
theorem own_d2_23 : decode method_3_code 23 = .ok (.iload_n 0, 1) := by decide +kernel
theorem own_d2_24 : decode method_3_code 24 = .ok (.bipush 102, 2) := by decide +kernel
theorem own_d2_26 : decode method_3_code 26 = .ok (.if_icmp .gt 11, 3) := by decide +kernel
theorem own_d2_29 : decode method_3_code 29 = .ok (.iload_n 0, 1) := by decide +kernel
theorem own_d2_30 : decode method_3_code 30 = .ok (.bipush 97, 2) := by decide +kernel
theorem own_d2_32 : decode method_3_code 32 = .ok (.isub, 1) := by decide +kernel
theorem own_d2_33 : decode method_3_code 33 = .ok (.bipush 10, 2) := by decide +kernel
theorem own_d2_35 : decode method_3_code 35 = .ok (.iadd, 1) := by decide +kernel
theorem own_d2_36 : decode method_3_code 36 = .ok (.ireturn, 1) := by decide +kernel
theorem own_d2_6 : decode method_3_code 6 = .ok (.iload_n 0, 1) := by decide +kernel
theorem own_d2_7 : decode method_3_code 7 = .ok (.bipush 57, 2) := by decide +kernel
theorem own_d2_9 : decode method_3_code 9 = .ok (.if_icmp .gt 8, 3) := by decide +kernel
theorem own_d2_12 : decode method_3_code 12 = .ok (.iload_n 0, 1) := by decide +kernel
theorem own_d2_13 : decode method_3_code 13 = .ok (.bipush 48, 2) := by decide +kernel
theorem own_d2_15 : decode method_3_code 15 = .ok (.isub, 1) := by decide +kernel
theorem own_d2_16 : decode method_3_code 16 = .ok (.ireturn, 1) := by decide +kernel
theorem own_pd0 : parseMethodDescriptor "(C)I" = some ⟨[.char], some .int⟩ := by decide +kernel
def own_i2c (x : Int32) : Int32 := x.toUInt32.toUInt16.toUInt32.toInt32
def own_hex2 (c : Int32) : Int32 := if (c ||| (32 : Int32)).toUInt32.toUInt16.toUInt32.toInt32 < (97 : Int32) then (-1 : Int32) else if (102 : Int32) < (c ||| (32 : Int32)).toUInt32.toUInt16.toUInt32.toInt32 then (-1 : Int32) else (((c ||| (32 : Int32)).toUInt32.toUInt16.toUInt32.toInt32 - (97 : Int32)) + (10 : Int32))
def own_hex (c : Int32) : Int32 := if c < (48 : Int32) then own_hex2 c else if (57 : Int32) < c then own_hex2 c else (c - (48 : Int32))
def own_exp3 (c : Int32) : Int32 := if c < (65 : Int32) then (-1 : Int32) else if (70 : Int32) < c then (-1 : Int32) else ((c - (65 : Int32)) + (10 : Int32))
def own_exp2 (c : Int32) : Int32 := if c < (97 : Int32) then own_exp3 c else if (102 : Int32) < c then own_exp3 c else ((c - (97 : Int32)) + (10 : Int32))
def own_exp (c : Int32) : Int32 := if c < (48 : Int32) then own_exp2 c else if (57 : Int32) < c then own_exp2 c else (c - (48 : Int32))
theorem own_bit5 (i : Nat) (hi : i < 32) : (32#32).getLsbD i = decide (i = 5) := by
  have : ∀ i : Fin 32, (32#32).getLsbD i.1 = decide (i.1 = 5) := by decide
  exact this ⟨i, hi⟩
theorem own_or32 (c : BitVec 32) : c ||| 32#32 = c ∨ c ||| 32#32 = c + 32#32 := by
  by_cases h : c.getLsbD 5 = true
  · left
    apply BitVec.eq_of_getLsbD_eq
    intro i hi
    rw [BitVec.getLsbD_or, own_bit5 i hi]
    by_cases q : i = 5
    · subst q; simp [h]
    · simp [q]
  · right
    symm
    apply BitVec.add_eq_or_of_and_eq_zero
    apply BitVec.eq_of_getLsbD_eq
    intro i hi
    rw [BitVec.getLsbD_and, own_bit5 i hi]
    by_cases q : i = 5
    · subst q; simp at h; simp [h]
    · simp [q]
theorem own_or32i (c : Int32) : c ||| 32 = c ∨ c ||| 32 = c + 32 := by
  rcases own_or32 c.toBitVec with h | h
  · exact Or.inl (Int32.toBitVec_inj.mp h)
  · exact Or.inr (Int32.toBitVec_inj.mp h)
theorem own_lt {a b : Int32} : a < b ↔ a.toInt < b.toInt := Int32.lt_iff_toInt_lt
theorem own_eqi {a b : Int32} (h : a.toInt = b.toInt) : a = b := Int32.toInt_inj.mp h
theorem own_plain (c : Int32) (h0 : 0 ≤ c.toInt) (h1 : c.toInt < 65536) : own_hex c = own_exp c := by
  have k : ∀ z : Int32, 0 ≤ z.toInt → z.toInt < 65536 → z.toUInt32.toUInt16.toUInt32.toInt32 = z := fun z a b => by
    have q := c_i2c z
    apply own_eqi; omega
  unfold own_hex own_exp
  have e48 : (48 : Int32).toInt = 48 := by decide
  have e57 : (57 : Int32).toInt = 57 := by decide
  have e97 : (97 : Int32).toInt = 97 := by decide
  have e102 : (102 : Int32).toInt = 102 := by decide
  have e65 : (65 : Int32).toInt = 65 := by decide
  have e70 : (70 : Int32).toInt = 70 := by decide
  have e32 : (32 : Int32).toInt = 32 := by decide
  have e10 : (10 : Int32).toInt = 10 := by decide
  have main : own_hex2 c = own_exp2 c ∨ (48 ≤ c.toInt ∧ c.toInt ≤ 57) := by
    by_cases hd : 48 ≤ c.toInt ∧ c.toInt ≤ 57
    · exact Or.inr hd
    left
    by_cases l1 : 97 ≤ c.toInt ∧ c.toInt ≤ 102
    · have : c = 97 ∨ c = 98 ∨ c = 99 ∨ c = 100 ∨ c = 101 ∨ c = 102 := by
        have : c.toInt = 97 ∨ c.toInt = 98 ∨ c.toInt = 99 ∨ c.toInt = 100 ∨ c.toInt = 101 ∨ c.toInt = 102 := by omega
        rcases this with h | h | h | h | h | h
        · exact Or.inl (own_eqi h)
        · exact Or.inr (Or.inl (own_eqi h))
        · exact Or.inr (Or.inr (Or.inl (own_eqi h)))
        · exact Or.inr (Or.inr (Or.inr (Or.inl (own_eqi h))))
        · exact Or.inr (Or.inr (Or.inr (Or.inr (Or.inl (own_eqi h)))))
        · exact Or.inr (Or.inr (Or.inr (Or.inr (Or.inr (own_eqi h)))))
      rcases this with rfl | rfl | rfl | rfl | rfl | rfl <;> decide
    · by_cases l2 : 65 ≤ c.toInt ∧ c.toInt ≤ 70
      · have : c = 65 ∨ c = 66 ∨ c = 67 ∨ c = 68 ∨ c = 69 ∨ c = 70 := by
          have : c.toInt = 65 ∨ c.toInt = 66 ∨ c.toInt = 67 ∨ c.toInt = 68 ∨ c.toInt = 69 ∨ c.toInt = 70 := by omega
          rcases this with h | h | h | h | h | h
          · exact Or.inl (own_eqi h)
          · exact Or.inr (Or.inl (own_eqi h))
          · exact Or.inr (Or.inr (Or.inl (own_eqi h)))
          · exact Or.inr (Or.inr (Or.inr (Or.inl (own_eqi h))))
          · exact Or.inr (Or.inr (Or.inr (Or.inr (Or.inl (own_eqi h)))))
          · exact Or.inr (Or.inr (Or.inr (Or.inr (Or.inr (own_eqi h)))))
        rcases this with rfl | rfl | rfl | rfl | rfl | rfl <;> decide
      · have hexp : own_exp2 c = -1 := by
          unfold own_exp2 own_exp3
          simp only [own_lt, e97, e102, e65, e70]
          by_cases a : c.toInt < 97
          · rw [if_pos a]
            by_cases b : c.toInt < 65
            · rw [if_pos b]
            · rw [if_neg b, if_pos (by omega)]
          · rw [if_neg a, if_pos (by omega), if_neg (by omega), if_pos (by omega)]
        rw [hexp]
        unfold own_hex2
        rcases own_or32i c with h | h
        · rw [h, k c h0 h1]
          simp only [own_lt, e97, e102]
          by_cases a : c.toInt < 97
          · rw [if_pos a]
          · rw [if_neg a, if_pos (by omega)]
        · have q := c_iadd c 32
          rw [e32] at q
          have r := rng32 (c + 32)
          rw [h]
          have w := c_i2c (c + 32)
          generalize (c + 32).toUInt32.toUInt16.toUInt32.toInt32 = d at *
          simp only [own_lt, e97, e102]
          by_cases a : d.toInt < 97
          · rw [if_pos a]
          · by_cases b : 102 < d.toInt
            · rw [if_neg a, if_pos b]
            · exfalso
              have o := c_or0 c 32 h0 (by decide)
              rw [h] at o
              omega
  rcases main with m | ⟨a, b⟩
  · rw [m]
  · have x1 : ¬ c < 48 := by rw [own_lt, e48]; omega
    have x2 : ¬ (57 : Int32) < c := by rw [own_lt, e57]; omega
    rw [if_neg x1, if_neg x2, if_neg x1, if_neg x2]
theorem own_main (x : Int32) : own_hex (x &&& (65535 : Int32)).toUInt32.toUInt16.toUInt32.toInt32 = own_exp (x &&& (65535 : Int32)).toUInt32.toUInt16.toUInt32.toInt32 := own_plain _ (c_i2c _).2.1 (c_i2c _).2.2

theorem own_rhex_ef (m : MethodId) (x0 : Int32) : entryFrame m #[(.int x0)] 2 = mkF m 0 #[.val (.int x0), .unset] [] := by first | (simp [entryFrame, mkF, argsToLocals, Value.category]; done) | rfl
def own_rhex_Q (Z : State) (p1 : Int32) (h0 : Heap) (n0 : Nat) (v : Option Value) (h : Heap) (L : List Loc) : Prop := (v = some (.int (own_hex p1)) ∧ Fr n0 L ∧ h = h0)
set_option maxRecDepth 65536 in
set_option maxHeartbeats 40000000 in
theorem own_rhex (l : Launch) (Z : State) (a0 : Array Value) (hw : ∀ d ∈ tables_1, d.before a0 Z = true) (ws : List Jvm.Cond) (p1 : Int32) (h0 : Heap) (n0 : Nat) (Z0 : n0 ≤ h0.size)  :
    MetFree l (⟨"com/example/corbelpath/corbelpath/UrlGrammar", "hexDigit", "(C)I"⟩ : MethodName) (head1 (Jvm.Cond.code (⟨"com/example/corbelpath/corbelpath/UrlGrammar", "hexDigit", "(C)I"⟩ : MethodName) prog_74_method_11_code 2 (some .int) :: ws) ({ frames := 0, cells := 0, slots := 0, locals := 0 } : Room)) (fun a U => a = #[(.int p1)] ∧ Z.Warmed39 U.vm ∧ U.heap = h0) (fun _ _ _ _ _ => True) (fun _ U o U' => ∃ v L, o = .returned v ∧ own_rhex_Q Z p1 h0 n0 v U'.heap L ∧ FrameEnd U o U' L ({ frames := 0, cells := 0, slots := 0, locals := 0 } : Room).cells ({ frames := 0, cells := 0, slots := 0, locals := 0 } : Room).slots) := by
  refine MetFree.of_bodySF (plainFor_of_name own_pn0) hisR ?_
  intro p e s m args below meth c s₁ Bd hml0 hP hK
  obtain ⟨rfl, hZ, hh⟩ := hP
  have hx := Bd.exec
  have hby := Bd.bytes
  have hlk : meth.locks = false := BodyLoose.notSynchronized Bd
  have hml : c.maxLocals = 2 := hml0
  have hown : s.vm.findClass "com/example/corbelpath/corbelpath/UrlGrammar" = some m.cls := findClass_of_methodNamed Bd.named
  have hnm := (name_of_methodNamed Bd.named Bd.method).1
  have X0 : Stand p l e ({ frames := 0, cells := 0, slots := 0, locals := 0 } : Room) s m #[(.int p1)] below meth c s₁ [] 0 0 := Stand.of_body Bd
  have e0 : s₁.heap = h0 := by rw [← hh, Bd.state]; rfl
  have N0 := Fr.nil n0
  refine own_start (QQ := own_rhex_Q Z p1 h0 n0) (rc := ({ frames := 0, cells := 0, slots := 0, locals := 0 } : Room).cells) (rs := ({ frames := 0, cells := 0, slots := 0, locals := 0 } : Room).slots) (own_rhex_ef m p1 ) ?_
  show own_G p.tables e below _ (s₁.setTop (mkF m 0 #[.val (.int p1), .unset] []))
  refine own_fs (XS.iloadN X0.here hx rfl (hb hby own_d1_0) rfl (Steps.refl _)) ?_
  show own_G p.tables e below _ (s₁.setTop (mkF m 1 #[.val (.int p1), .unset] [(.int p1)]))
  refine own_fs (XS.bipush X0.here hx rfl (hb hby own_d1_1) (Steps.refl _)) ?_
  show own_G p.tables e below _ (s₁.setTop (mkF m 3 #[.val (.int p1), .unset] [(.int (48 : Int32)), (.int p1)]))
  by_cases hc3 : p1 < (48 : Int32)
  · refine own_fs (XS.icmpYes X0.here hx rfl (pc0 := 3) (pc' := 17) rfl (hb hby own_d1_3) rfl (XT.ii_lt_t hc3) (by decide) (by decide) (Steps.refl _)) ?_
    show own_G p.tables e below _ (s₁.setTop (mkF m 17 #[.val (.int p1), .unset] []))
    refine own_fs (XS.iloadN X0.here hx rfl (hb hby own_d1_17) rfl (Steps.refl _)) ?_
    show own_G p.tables e below _ (s₁.setTop (mkF m 18 #[.val (.int p1), .unset] [(.int p1)]))
    refine own_fs (XS.bipush X0.here hx rfl (hb hby own_d1_18) (Steps.refl _)) ?_
    show own_G p.tables e below _ (s₁.setTop (mkF m 20 #[.val (.int p1), .unset] [(.int (32 : Int32)), (.int p1)]))
    refine own_fs (XS.ior X0.here hx rfl (hb hby own_d1_20) rfl (Steps.refl _)) ?_
    show own_G p.tables e below _ (s₁.setTop (mkF m 21 #[.val (.int p1), .unset] [(.int (p1 ||| (32 : Int32)))]))
    refine own_fs (XS.i2c X0.here hx rfl (hb hby own_d1_21) rfl (Steps.refl _)) ?_
    show own_G p.tables e below _ (s₁.setTop (mkF m 22 #[.val (.int p1), .unset] [(.int ((p1 ||| (32 : Int32)).toUInt32.toUInt16.toUInt32.toInt32))]))
    refine own_fs (XS.istoreN X0.here hx rfl (hb hby own_d1_22) rfl (l' := #[.val (.int p1), .val (.int ((p1 ||| (32 : Int32)).toUInt32.toUInt16.toUInt32.toInt32))]) rfl (Steps.refl _)) ?_
    show own_G p.tables e below _ (s₁.setTop (mkF m 23 #[.val (.int p1), .val (.int ((p1 ||| (32 : Int32)).toUInt32.toUInt16.toUInt32.toInt32))] []))
    refine own_fs (XS.iloadN X0.here hx rfl (hb hby own_d1_23) rfl (Steps.refl _)) ?_
    show own_G p.tables e below _ (s₁.setTop (mkF m 24 #[.val (.int p1), .val (.int ((p1 ||| (32 : Int32)).toUInt32.toUInt16.toUInt32.toInt32))] [(.int ((p1 ||| (32 : Int32)).toUInt32.toUInt16.toUInt32.toInt32))]))
    refine own_fs (XS.bipush X0.here hx rfl (hb hby own_d1_24) (Steps.refl _)) ?_
    show own_G p.tables e below _ (s₁.setTop (mkF m 26 #[.val (.int p1), .val (.int ((p1 ||| (32 : Int32)).toUInt32.toUInt16.toUInt32.toInt32))] [(.int (97 : Int32)), (.int ((p1 ||| (32 : Int32)).toUInt32.toUInt16.toUInt32.toInt32))]))
    by_cases hc26 : ((p1 ||| (32 : Int32)).toUInt32.toUInt16.toUInt32.toInt32) < (97 : Int32)
    · refine own_fs (XS.icmpYes X0.here hx rfl (pc0 := 26) (pc' := 45) rfl (hb hby own_d1_26) rfl (XT.ii_lt_t hc26) (by decide) (by decide) (Steps.refl _)) ?_
      show own_G p.tables e below _ (s₁.setTop (mkF m 45 #[.val (.int p1), .val (.int ((p1 ||| (32 : Int32)).toUInt32.toUInt16.toUInt32.toInt32))] []))
      refine own_fs (XS.iconst X0.here hx rfl (hb hby own_d1_45) (Steps.refl _)) ?_
      show own_G p.tables e below _ (s₁.setTop (mkF m 46 #[.val (.int p1), .val (.int ((p1 ||| (32 : Int32)).toUInt32.toUInt16.toUInt32.toInt32))] [(.int (-1 : Int32))]))
      exact own_retI X0 hx Bd.returns hlk (hb hby own_d1_46) (by decide) (by decide) e0 ⟨(by simp only [own_hex, own_hex2, hc26, hc3, ↓reduceIte]), N0, rfl⟩
    · refine own_fs (XS.icmpNo X0.here hx rfl (hb hby own_d1_26) rfl (XT.ii_lt_f hc26) (Steps.refl _)) ?_
      show own_G p.tables e below _ (s₁.setTop (mkF m 29 #[.val (.int p1), .val (.int ((p1 ||| (32 : Int32)).toUInt32.toUInt16.toUInt32.toInt32))] []))
      refine own_fs (XS.iloadN X0.here hx rfl (hb hby own_d1_29) rfl (Steps.refl _)) ?_
      show own_G p.tables e below _ (s₁.setTop (mkF m 30 #[.val (.int p1), .val (.int ((p1 ||| (32 : Int32)).toUInt32.toUInt16.toUInt32.toInt32))] [(.int ((p1 ||| (32 : Int32)).toUInt32.toUInt16.toUInt32.toInt32))]))
      refine own_fs (XS.bipush X0.here hx rfl (hb hby own_d1_30) (Steps.refl _)) ?_
      show own_G p.tables e below _ (s₁.setTop (mkF m 32 #[.val (.int p1), .val (.int ((p1 ||| (32 : Int32)).toUInt32.toUInt16.toUInt32.toInt32))] [(.int (102 : Int32)), (.int ((p1 ||| (32 : Int32)).toUInt32.toUInt16.toUInt32.toInt32))]))
      by_cases hc32 : (102 : Int32) < ((p1 ||| (32 : Int32)).toUInt32.toUInt16.toUInt32.toInt32)
      · refine own_fs (XS.icmpYes X0.here hx rfl (pc0 := 32) (pc' := 45) rfl (hb hby own_d1_32) rfl (XT.ii_gt_t hc32) (by decide) (by decide) (Steps.refl _)) ?_
        show own_G p.tables e below _ (s₁.setTop (mkF m 45 #[.val (.int p1), .val (.int ((p1 ||| (32 : Int32)).toUInt32.toUInt16.toUInt32.toInt32))] []))
        refine own_fs (XS.iconst X0.here hx rfl (hb hby own_d1_45) (Steps.refl _)) ?_
        show own_G p.tables e below _ (s₁.setTop (mkF m 46 #[.val (.int p1), .val (.int ((p1 ||| (32 : Int32)).toUInt32.toUInt16.toUInt32.toInt32))] [(.int (-1 : Int32))]))
        exact own_retI X0 hx Bd.returns hlk (hb hby own_d1_46) (by decide) (by decide) e0 ⟨(by simp only [own_hex, own_hex2, hc26, hc3, hc32, ↓reduceIte]), N0, rfl⟩
      · refine own_fs (XS.icmpNo X0.here hx rfl (hb hby own_d1_32) rfl (XT.ii_gt_f hc32) (Steps.refl _)) ?_
        show own_G p.tables e below _ (s₁.setTop (mkF m 35 #[.val (.int p1), .val (.int ((p1 ||| (32 : Int32)).toUInt32.toUInt16.toUInt32.toInt32))] []))
        refine own_fs (XS.iloadN X0.here hx rfl (hb hby own_d1_35) rfl (Steps.refl _)) ?_
        show own_G p.tables e below _ (s₁.setTop (mkF m 36 #[.val (.int p1), .val (.int ((p1 ||| (32 : Int32)).toUInt32.toUInt16.toUInt32.toInt32))] [(.int ((p1 ||| (32 : Int32)).toUInt32.toUInt16.toUInt32.toInt32))]))
        refine own_fs (XS.bipush X0.here hx rfl (hb hby own_d1_36) (Steps.refl _)) ?_
        show own_G p.tables e below _ (s₁.setTop (mkF m 38 #[.val (.int p1), .val (.int ((p1 ||| (32 : Int32)).toUInt32.toUInt16.toUInt32.toInt32))] [(.int (97 : Int32)), (.int ((p1 ||| (32 : Int32)).toUInt32.toUInt16.toUInt32.toInt32))]))
        refine own_fs (XS.isub X0.here hx rfl (hb hby own_d1_38) rfl (Steps.refl _)) ?_
        show own_G p.tables e below _ (s₁.setTop (mkF m 39 #[.val (.int p1), .val (.int ((p1 ||| (32 : Int32)).toUInt32.toUInt16.toUInt32.toInt32))] [(.int (((p1 ||| (32 : Int32)).toUInt32.toUInt16.toUInt32.toInt32) - (97 : Int32)))]))
        refine own_fs (XS.bipush X0.here hx rfl (hb hby own_d1_39) (Steps.refl _)) ?_
        show own_G p.tables e below _ (s₁.setTop (mkF m 41 #[.val (.int p1), .val (.int ((p1 ||| (32 : Int32)).toUInt32.toUInt16.toUInt32.toInt32))] [(.int (10 : Int32)), (.int (((p1 ||| (32 : Int32)).toUInt32.toUInt16.toUInt32.toInt32) - (97 : Int32)))]))
        refine own_fs (XS.iadd X0.here hx rfl (hb hby own_d1_41) rfl (Steps.refl _)) ?_
        show own_G p.tables e below _ (s₁.setTop (mkF m 42 #[.val (.int p1), .val (.int ((p1 ||| (32 : Int32)).toUInt32.toUInt16.toUInt32.toInt32))] [(.int ((((p1 ||| (32 : Int32)).toUInt32.toUInt16.toUInt32.toInt32) - (97 : Int32)) + (10 : Int32)))]))
        refine own_fs (XS.goto X0.here hx rfl (pc0 := 42) (pc' := 46) rfl (hb hby own_d1_42) (by decide) (by decide) (Steps.refl _)) ?_
        show own_G p.tables e below _ (s₁.setTop (mkF m 46 #[.val (.int p1), .val (.int ((p1 ||| (32 : Int32)).toUInt32.toUInt16.toUInt32.toInt32))] [(.int ((((p1 ||| (32 : Int32)).toUInt32.toUInt16.toUInt32.toInt32) - (97 : Int32)) + (10 : Int32)))]))
        exact own_retI X0 hx Bd.returns hlk (hb hby own_d1_46) (by decide) (by decide) e0 ⟨(by simp only [own_hex, own_hex2, hc26, hc3, hc32, ↓reduceIte]), N0, rfl⟩
  · refine own_fs (XS.icmpNo X0.here hx rfl (hb hby own_d1_3) rfl (XT.ii_lt_f hc3) (Steps.refl _)) ?_
    show own_G p.tables e below _ (s₁.setTop (mkF m 6 #[.val (.int p1), .unset] []))
    refine own_fs (XS.iloadN X0.here hx rfl (hb hby own_d1_6) rfl (Steps.refl _)) ?_
    show own_G p.tables e below _ (s₁.setTop (mkF m 7 #[.val (.int p1), .unset] [(.int p1)]))
    refine own_fs (XS.bipush X0.here hx rfl (hb hby own_d1_7) (Steps.refl _)) ?_
    show own_G p.tables e below _ (s₁.setTop (mkF m 9 #[.val (.int p1), .unset] [(.int (57 : Int32)), (.int p1)]))
    by_cases hc9 : (57 : Int32) < p1
    · refine own_fs (XS.icmpYes X0.here hx rfl (pc0 := 9) (pc' := 17) rfl (hb hby own_d1_9) rfl (XT.ii_gt_t hc9) (by decide) (by decide) (Steps.refl _)) ?_
      show own_G p.tables e below _ (s₁.setTop (mkF m 17 #[.val (.int p1), .unset] []))
      refine own_fs (XS.iloadN X0.here hx rfl (hb hby own_d1_17) rfl (Steps.refl _)) ?_
      show own_G p.tables e below _ (s₁.setTop (mkF m 18 #[.val (.int p1), .unset] [(.int p1)]))
      refine own_fs (XS.bipush X0.here hx rfl (hb hby own_d1_18) (Steps.refl _)) ?_
      show own_G p.tables e below _ (s₁.setTop (mkF m 20 #[.val (.int p1), .unset] [(.int (32 : Int32)), (.int p1)]))
      refine own_fs (XS.ior X0.here hx rfl (hb hby own_d1_20) rfl (Steps.refl _)) ?_
      show own_G p.tables e below _ (s₁.setTop (mkF m 21 #[.val (.int p1), .unset] [(.int (p1 ||| (32 : Int32)))]))
      refine own_fs (XS.i2c X0.here hx rfl (hb hby own_d1_21) rfl (Steps.refl _)) ?_
      show own_G p.tables e below _ (s₁.setTop (mkF m 22 #[.val (.int p1), .unset] [(.int ((p1 ||| (32 : Int32)).toUInt32.toUInt16.toUInt32.toInt32))]))
      refine own_fs (XS.istoreN X0.here hx rfl (hb hby own_d1_22) rfl (l' := #[.val (.int p1), .val (.int ((p1 ||| (32 : Int32)).toUInt32.toUInt16.toUInt32.toInt32))]) rfl (Steps.refl _)) ?_
      show own_G p.tables e below _ (s₁.setTop (mkF m 23 #[.val (.int p1), .val (.int ((p1 ||| (32 : Int32)).toUInt32.toUInt16.toUInt32.toInt32))] []))
      refine own_fs (XS.iloadN X0.here hx rfl (hb hby own_d1_23) rfl (Steps.refl _)) ?_
      show own_G p.tables e below _ (s₁.setTop (mkF m 24 #[.val (.int p1), .val (.int ((p1 ||| (32 : Int32)).toUInt32.toUInt16.toUInt32.toInt32))] [(.int ((p1 ||| (32 : Int32)).toUInt32.toUInt16.toUInt32.toInt32))]))
      refine own_fs (XS.bipush X0.here hx rfl (hb hby own_d1_24) (Steps.refl _)) ?_
      show own_G p.tables e below _ (s₁.setTop (mkF m 26 #[.val (.int p1), .val (.int ((p1 ||| (32 : Int32)).toUInt32.toUInt16.toUInt32.toInt32))] [(.int (97 : Int32)), (.int ((p1 ||| (32 : Int32)).toUInt32.toUInt16.toUInt32.toInt32))]))
      by_cases hc26 : ((p1 ||| (32 : Int32)).toUInt32.toUInt16.toUInt32.toInt32) < (97 : Int32)
      · refine own_fs (XS.icmpYes X0.here hx rfl (pc0 := 26) (pc' := 45) rfl (hb hby own_d1_26) rfl (XT.ii_lt_t hc26) (by decide) (by decide) (Steps.refl _)) ?_
        show own_G p.tables e below _ (s₁.setTop (mkF m 45 #[.val (.int p1), .val (.int ((p1 ||| (32 : Int32)).toUInt32.toUInt16.toUInt32.toInt32))] []))
        refine own_fs (XS.iconst X0.here hx rfl (hb hby own_d1_45) (Steps.refl _)) ?_
        show own_G p.tables e below _ (s₁.setTop (mkF m 46 #[.val (.int p1), .val (.int ((p1 ||| (32 : Int32)).toUInt32.toUInt16.toUInt32.toInt32))] [(.int (-1 : Int32))]))
        exact own_retI X0 hx Bd.returns hlk (hb hby own_d1_46) (by decide) (by decide) e0 ⟨(by simp only [own_hex, own_hex2, hc26, hc3, hc9, ↓reduceIte]), N0, rfl⟩
      · refine own_fs (XS.icmpNo X0.here hx rfl (hb hby own_d1_26) rfl (XT.ii_lt_f hc26) (Steps.refl _)) ?_
        show own_G p.tables e below _ (s₁.setTop (mkF m 29 #[.val (.int p1), .val (.int ((p1 ||| (32 : Int32)).toUInt32.toUInt16.toUInt32.toInt32))] []))
        refine own_fs (XS.iloadN X0.here hx rfl (hb hby own_d1_29) rfl (Steps.refl _)) ?_
        show own_G p.tables e below _ (s₁.setTop (mkF m 30 #[.val (.int p1), .val (.int ((p1 ||| (32 : Int32)).toUInt32.toUInt16.toUInt32.toInt32))] [(.int ((p1 ||| (32 : Int32)).toUInt32.toUInt16.toUInt32.toInt32))]))
        refine own_fs (XS.bipush X0.here hx rfl (hb hby own_d1_30) (Steps.refl _)) ?_
        show own_G p.tables e below _ (s₁.setTop (mkF m 32 #[.val (.int p1), .val (.int ((p1 ||| (32 : Int32)).toUInt32.toUInt16.toUInt32.toInt32))] [(.int (102 : Int32)), (.int ((p1 ||| (32 : Int32)).toUInt32.toUInt16.toUInt32.toInt32))]))
        by_cases hc32 : (102 : Int32) < ((p1 ||| (32 : Int32)).toUInt32.toUInt16.toUInt32.toInt32)
        · refine own_fs (XS.icmpYes X0.here hx rfl (pc0 := 32) (pc' := 45) rfl (hb hby own_d1_32) rfl (XT.ii_gt_t hc32) (by decide) (by decide) (Steps.refl _)) ?_
          show own_G p.tables e below _ (s₁.setTop (mkF m 45 #[.val (.int p1), .val (.int ((p1 ||| (32 : Int32)).toUInt32.toUInt16.toUInt32.toInt32))] []))
          refine own_fs (XS.iconst X0.here hx rfl (hb hby own_d1_45) (Steps.refl _)) ?_
          show own_G p.tables e below _ (s₁.setTop (mkF m 46 #[.val (.int p1), .val (.int ((p1 ||| (32 : Int32)).toUInt32.toUInt16.toUInt32.toInt32))] [(.int (-1 : Int32))]))
          exact own_retI X0 hx Bd.returns hlk (hb hby own_d1_46) (by decide) (by decide) e0 ⟨(by simp only [own_hex, own_hex2, hc26, hc3, hc32, hc9, ↓reduceIte]), N0, rfl⟩
        · refine own_fs (XS.icmpNo X0.here hx rfl (hb hby own_d1_32) rfl (XT.ii_gt_f hc32) (Steps.refl _)) ?_
          show own_G p.tables e below _ (s₁.setTop (mkF m 35 #[.val (.int p1), .val (.int ((p1 ||| (32 : Int32)).toUInt32.toUInt16.toUInt32.toInt32))] []))
          refine own_fs (XS.iloadN X0.here hx rfl (hb hby own_d1_35) rfl (Steps.refl _)) ?_
          show own_G p.tables e below _ (s₁.setTop (mkF m 36 #[.val (.int p1), .val (.int ((p1 ||| (32 : Int32)).toUInt32.toUInt16.toUInt32.toInt32))] [(.int ((p1 ||| (32 : Int32)).toUInt32.toUInt16.toUInt32.toInt32))]))
          refine own_fs (XS.bipush X0.here hx rfl (hb hby own_d1_36) (Steps.refl _)) ?_
          show own_G p.tables e below _ (s₁.setTop (mkF m 38 #[.val (.int p1), .val (.int ((p1 ||| (32 : Int32)).toUInt32.toUInt16.toUInt32.toInt32))] [(.int (97 : Int32)), (.int ((p1 ||| (32 : Int32)).toUInt32.toUInt16.toUInt32.toInt32))]))
          refine own_fs (XS.isub X0.here hx rfl (hb hby own_d1_38) rfl (Steps.refl _)) ?_
          show own_G p.tables e below _ (s₁.setTop (mkF m 39 #[.val (.int p1), .val (.int ((p1 ||| (32 : Int32)).toUInt32.toUInt16.toUInt32.toInt32))] [(.int (((p1 ||| (32 : Int32)).toUInt32.toUInt16.toUInt32.toInt32) - (97 : Int32)))]))
          refine own_fs (XS.bipush X0.here hx rfl (hb hby own_d1_39) (Steps.refl _)) ?_
          show own_G p.tables e below _ (s₁.setTop (mkF m 41 #[.val (.int p1), .val (.int ((p1 ||| (32 : Int32)).toUInt32.toUInt16.toUInt32.toInt32))] [(.int (10 : Int32)), (.int (((p1 ||| (32 : Int32)).toUInt32.toUInt16.toUInt32.toInt32) - (97 : Int32)))]))
          refine own_fs (XS.iadd X0.here hx rfl (hb hby own_d1_41) rfl (Steps.refl _)) ?_
          show own_G p.tables e below _ (s₁.setTop (mkF m 42 #[.val (.int p1), .val (.int ((p1 ||| (32 : Int32)).toUInt32.toUInt16.toUInt32.toInt32))] [(.int ((((p1 ||| (32 : Int32)).toUInt32.toUInt16.toUInt32.toInt32) - (97 : Int32)) + (10 : Int32)))]))
          refine own_fs (XS.goto X0.here hx rfl (pc0 := 42) (pc' := 46) rfl (hb hby own_d1_42) (by decide) (by decide) (Steps.refl _)) ?_
          show own_G p.tables e below _ (s₁.setTop (mkF m 46 #[.val (.int p1), .val (.int ((p1 ||| (32 : Int32)).toUInt32.toUInt16.toUInt32.toInt32))] [(.int ((((p1 ||| (32 : Int32)).toUInt32.toUInt16.toUInt32.toInt32) - (97 : Int32)) + (10 : Int32)))]))
          exact own_retI X0 hx Bd.returns hlk (hb hby own_d1_46) (by decide) (by decide) e0 ⟨(by simp only [own_hex, own_hex2, hc26, hc3, hc32, hc9, ↓reduceIte]), N0, rfl⟩
    · refine own_fs (XS.icmpNo X0.here hx rfl (hb hby own_d1_9) rfl (XT.ii_gt_f hc9) (Steps.refl _)) ?_
      show own_G p.tables e below _ (s₁.setTop (mkF m 12 #[.val (.int p1), .unset] []))
      refine own_fs (XS.iloadN X0.here hx rfl (hb hby own_d1_12) rfl (Steps.refl _)) ?_
      show own_G p.tables e below _ (s₁.setTop (mkF m 13 #[.val (.int p1), .unset] [(.int p1)]))
      refine own_fs (XS.bipush X0.here hx rfl (hb hby own_d1_13) (Steps.refl _)) ?_
      show own_G p.tables e below _ (s₁.setTop (mkF m 15 #[.val (.int p1), .unset] [(.int (48 : Int32)), (.int p1)]))
      refine own_fs (XS.isub X0.here hx rfl (hb hby own_d1_15) rfl (Steps.refl _)) ?_
      show own_G p.tables e below _ (s₁.setTop (mkF m 16 #[.val (.int p1), .unset] [(.int (p1 - (48 : Int32)))]))
      exact own_retI X0 hx Bd.returns hlk (hb hby own_d1_16) (by decide) (by decide) e0 ⟨(by simp only [own_hex, own_hex2, hc3, hc9, ↓reduceIte]), N0, rfl⟩
theorem own_rexp_ef (m : MethodId) (x0 : Int32) : entryFrame m #[(.int x0)] 1 = mkF m 0 #[.val (.int x0)] [] := by first | (simp [entryFrame, mkF, argsToLocals, Value.category]; done) | rfl
def own_rexp_Q (Z : State) (p1 : Int32) (h0 : Heap) (n0 : Nat) (v : Option Value) (h : Heap) (L : List Loc) : Prop := (v = some (.int (own_exp p1)) ∧ Fr n0 L ∧ h = h0)
set_option maxRecDepth 65536 in
set_option maxHeartbeats 40000000 in
theorem own_rexp (l : Launch) (Z : State) (a0 : Array Value) (hw : ∀ d ∈ tables_1, d.before a0 Z = true) (ws : List Jvm.Cond) (p1 : Int32) (h0 : Heap) (n0 : Nat) (Z0 : n0 ≤ h0.size)  :
    MetFree l (⟨"com/example/corbelpath/corbelpath/UrlGrammarHexDigitPinLaw", "expected", "(C)I"⟩ : MethodName) (head1 (Jvm.Cond.code (⟨"com/example/corbelpath/corbelpath/UrlGrammarHexDigitPinLaw", "expected", "(C)I"⟩ : MethodName) method_3_code 1 (some .int) :: ws) ({ frames := 0, cells := 0, slots := 0, locals := 0 } : Room)) (fun a U => a = #[(.int p1)] ∧ Z.Warmed39 U.vm ∧ U.heap = h0) (fun _ _ _ _ _ => True) (fun _ U o U' => ∃ v L, o = .returned v ∧ own_rexp_Q Z p1 h0 n0 v U'.heap L ∧ FrameEnd U o U' L ({ frames := 0, cells := 0, slots := 0, locals := 0 } : Room).cells ({ frames := 0, cells := 0, slots := 0, locals := 0 } : Room).slots) := by
  refine MetFree.of_bodySF (plainFor_of_name own_pn1) hisR ?_
  intro p e s m args below meth c s₁ Bd hml0 hP hK
  obtain ⟨rfl, hZ, hh⟩ := hP
  have hx := Bd.exec
  have hby := Bd.bytes
  have hlk : meth.locks = false := BodyLoose.notSynchronized Bd
  have hml : c.maxLocals = 1 := hml0
  have hown : s.vm.findClass "com/example/corbelpath/corbelpath/UrlGrammarHexDigitPinLaw" = some m.cls := findClass_of_methodNamed Bd.named
  have hnm := (name_of_methodNamed Bd.named Bd.method).1
  have X0 : Stand p l e ({ frames := 0, cells := 0, slots := 0, locals := 0 } : Room) s m #[(.int p1)] below meth c s₁ [] 0 0 := Stand.of_body Bd
  have e0 : s₁.heap = h0 := by rw [← hh, Bd.state]; rfl
  have N0 := Fr.nil n0
  refine own_start (QQ := own_rexp_Q Z p1 h0 n0) (rc := ({ frames := 0, cells := 0, slots := 0, locals := 0 } : Room).cells) (rs := ({ frames := 0, cells := 0, slots := 0, locals := 0 } : Room).slots) (own_rexp_ef m p1 ) ?_
  show own_G p.tables e below _ (s₁.setTop (mkF m 0 #[.val (.int p1)] []))
  refine own_fs (XS.iloadN X0.here hx rfl (hb hby own_d2_0) rfl (Steps.refl _)) ?_
  show own_G p.tables e below _ (s₁.setTop (mkF m 1 #[.val (.int p1)] [(.int p1)]))
  refine own_fs (XS.bipush X0.here hx rfl (hb hby own_d2_1) (Steps.refl _)) ?_
  show own_G p.tables e below _ (s₁.setTop (mkF m 3 #[.val (.int p1)] [(.int (48 : Int32)), (.int p1)]))
  by_cases hc3 : p1 < (48 : Int32)
  · refine own_fs (XS.icmpYes X0.here hx rfl (pc0 := 3) (pc' := 17) rfl (hb hby own_d2_3) rfl (XT.ii_lt_t hc3) (by decide) (by decide) (Steps.refl _)) ?_
    show own_G p.tables e below _ (s₁.setTop (mkF m 17 #[.val (.int p1)] []))
    refine own_fs (XS.iloadN X0.here hx rfl (hb hby own_d2_17) rfl (Steps.refl _)) ?_
    show own_G p.tables e below _ (s₁.setTop (mkF m 18 #[.val (.int p1)] [(.int p1)]))
    refine own_fs (XS.bipush X0.here hx rfl (hb hby own_d2_18) (Steps.refl _)) ?_
    show own_G p.tables e below _ (s₁.setTop (mkF m 20 #[.val (.int p1)] [(.int (97 : Int32)), (.int p1)]))
    by_cases hc20 : p1 < (97 : Int32)
    · refine own_fs (XS.icmpYes X0.here hx rfl (pc0 := 20) (pc' := 37) rfl (hb hby own_d2_20) rfl (XT.ii_lt_t hc20) (by decide) (by decide) (Steps.refl _)) ?_
      show own_G p.tables e below _ (s₁.setTop (mkF m 37 #[.val (.int p1)] []))
      refine own_fs (XS.iloadN X0.here hx rfl (hb hby own_d2_37) rfl (Steps.refl _)) ?_
      show own_G p.tables e below _ (s₁.setTop (mkF m 38 #[.val (.int p1)] [(.int p1)]))
      refine own_fs (XS.bipush X0.here hx rfl (hb hby own_d2_38) (Steps.refl _)) ?_
      show own_G p.tables e below _ (s₁.setTop (mkF m 40 #[.val (.int p1)] [(.int (65 : Int32)), (.int p1)]))
      by_cases hc40 : p1 < (65 : Int32)
      · refine own_fs (XS.icmpYes X0.here hx rfl (pc0 := 40) (pc' := 57) rfl (hb hby own_d2_40) rfl (XT.ii_lt_t hc40) (by decide) (by decide) (Steps.refl _)) ?_
        show own_G p.tables e below _ (s₁.setTop (mkF m 57 #[.val (.int p1)] []))
        refine own_fs (XS.iconst X0.here hx rfl (hb hby own_d2_57) (Steps.refl _)) ?_
        show own_G p.tables e below _ (s₁.setTop (mkF m 58 #[.val (.int p1)] [(.int (-1 : Int32))]))
        exact own_retI X0 hx Bd.returns hlk (hb hby own_d2_58) (by decide) (by decide) e0 ⟨(by simp only [own_exp, own_exp2, own_exp3, hc20, hc3, hc40, ↓reduceIte]), N0, rfl⟩
      · refine own_fs (XS.icmpNo X0.here hx rfl (hb hby own_d2_40) rfl (XT.ii_lt_f hc40) (Steps.refl _)) ?_
        show own_G p.tables e below _ (s₁.setTop (mkF m 43 #[.val (.int p1)] []))
        refine own_fs (XS.iloadN X0.here hx rfl (hb hby own_d2_43) rfl (Steps.refl _)) ?_
        show own_G p.tables e below _ (s₁.setTop (mkF m 44 #[.val (.int p1)] [(.int p1)]))
        refine own_fs (XS.bipush X0.here hx rfl (hb hby own_d2_44) (Steps.refl _)) ?_
        show own_G p.tables e below _ (s₁.setTop (mkF m 46 #[.val (.int p1)] [(.int (70 : Int32)), (.int p1)]))
        by_cases hc46 : (70 : Int32) < p1
        · refine own_fs (XS.icmpYes X0.here hx rfl (pc0 := 46) (pc' := 57) rfl (hb hby own_d2_46) rfl (XT.ii_gt_t hc46) (by decide) (by decide) (Steps.refl _)) ?_
          show own_G p.tables e below _ (s₁.setTop (mkF m 57 #[.val (.int p1)] []))
          refine own_fs (XS.iconst X0.here hx rfl (hb hby own_d2_57) (Steps.refl _)) ?_
          show own_G p.tables e below _ (s₁.setTop (mkF m 58 #[.val (.int p1)] [(.int (-1 : Int32))]))
          exact own_retI X0 hx Bd.returns hlk (hb hby own_d2_58) (by decide) (by decide) e0 ⟨(by simp only [own_exp, own_exp2, own_exp3, hc20, hc3, hc40, hc46, ↓reduceIte]), N0, rfl⟩
        · refine own_fs (XS.icmpNo X0.here hx rfl (hb hby own_d2_46) rfl (XT.ii_gt_f hc46) (Steps.refl _)) ?_
          show own_G p.tables e below _ (s₁.setTop (mkF m 49 #[.val (.int p1)] []))
          refine own_fs (XS.iloadN X0.here hx rfl (hb hby own_d2_49) rfl (Steps.refl _)) ?_
          show own_G p.tables e below _ (s₁.setTop (mkF m 50 #[.val (.int p1)] [(.int p1)]))
          refine own_fs (XS.bipush X0.here hx rfl (hb hby own_d2_50) (Steps.refl _)) ?_
          show own_G p.tables e below _ (s₁.setTop (mkF m 52 #[.val (.int p1)] [(.int (65 : Int32)), (.int p1)]))
          refine own_fs (XS.isub X0.here hx rfl (hb hby own_d2_52) rfl (Steps.refl _)) ?_
          show own_G p.tables e below _ (s₁.setTop (mkF m 53 #[.val (.int p1)] [(.int (p1 - (65 : Int32)))]))
          refine own_fs (XS.bipush X0.here hx rfl (hb hby own_d2_53) (Steps.refl _)) ?_
          show own_G p.tables e below _ (s₁.setTop (mkF m 55 #[.val (.int p1)] [(.int (10 : Int32)), (.int (p1 - (65 : Int32)))]))
          refine own_fs (XS.iadd X0.here hx rfl (hb hby own_d2_55) rfl (Steps.refl _)) ?_
          show own_G p.tables e below _ (s₁.setTop (mkF m 56 #[.val (.int p1)] [(.int ((p1 - (65 : Int32)) + (10 : Int32)))]))
          exact own_retI X0 hx Bd.returns hlk (hb hby own_d2_56) (by decide) (by decide) e0 ⟨(by simp only [own_exp, own_exp2, own_exp3, hc20, hc3, hc40, hc46, ↓reduceIte]), N0, rfl⟩
    · refine own_fs (XS.icmpNo X0.here hx rfl (hb hby own_d2_20) rfl (XT.ii_lt_f hc20) (Steps.refl _)) ?_
      show own_G p.tables e below _ (s₁.setTop (mkF m 23 #[.val (.int p1)] []))
      refine own_fs (XS.iloadN X0.here hx rfl (hb hby own_d2_23) rfl (Steps.refl _)) ?_
      show own_G p.tables e below _ (s₁.setTop (mkF m 24 #[.val (.int p1)] [(.int p1)]))
      refine own_fs (XS.bipush X0.here hx rfl (hb hby own_d2_24) (Steps.refl _)) ?_
      show own_G p.tables e below _ (s₁.setTop (mkF m 26 #[.val (.int p1)] [(.int (102 : Int32)), (.int p1)]))
      by_cases hc26 : (102 : Int32) < p1
      · refine own_fs (XS.icmpYes X0.here hx rfl (pc0 := 26) (pc' := 37) rfl (hb hby own_d2_26) rfl (XT.ii_gt_t hc26) (by decide) (by decide) (Steps.refl _)) ?_
        show own_G p.tables e below _ (s₁.setTop (mkF m 37 #[.val (.int p1)] []))
        refine own_fs (XS.iloadN X0.here hx rfl (hb hby own_d2_37) rfl (Steps.refl _)) ?_
        show own_G p.tables e below _ (s₁.setTop (mkF m 38 #[.val (.int p1)] [(.int p1)]))
        refine own_fs (XS.bipush X0.here hx rfl (hb hby own_d2_38) (Steps.refl _)) ?_
        show own_G p.tables e below _ (s₁.setTop (mkF m 40 #[.val (.int p1)] [(.int (65 : Int32)), (.int p1)]))
        by_cases hc40 : p1 < (65 : Int32)
        · refine own_fs (XS.icmpYes X0.here hx rfl (pc0 := 40) (pc' := 57) rfl (hb hby own_d2_40) rfl (XT.ii_lt_t hc40) (by decide) (by decide) (Steps.refl _)) ?_
          show own_G p.tables e below _ (s₁.setTop (mkF m 57 #[.val (.int p1)] []))
          refine own_fs (XS.iconst X0.here hx rfl (hb hby own_d2_57) (Steps.refl _)) ?_
          show own_G p.tables e below _ (s₁.setTop (mkF m 58 #[.val (.int p1)] [(.int (-1 : Int32))]))
          exact own_retI X0 hx Bd.returns hlk (hb hby own_d2_58) (by decide) (by decide) e0 ⟨(by simp only [own_exp, own_exp2, own_exp3, hc20, hc26, hc3, hc40, ↓reduceIte]), N0, rfl⟩
        · refine own_fs (XS.icmpNo X0.here hx rfl (hb hby own_d2_40) rfl (XT.ii_lt_f hc40) (Steps.refl _)) ?_
          show own_G p.tables e below _ (s₁.setTop (mkF m 43 #[.val (.int p1)] []))
          refine own_fs (XS.iloadN X0.here hx rfl (hb hby own_d2_43) rfl (Steps.refl _)) ?_
          show own_G p.tables e below _ (s₁.setTop (mkF m 44 #[.val (.int p1)] [(.int p1)]))
          refine own_fs (XS.bipush X0.here hx rfl (hb hby own_d2_44) (Steps.refl _)) ?_
          show own_G p.tables e below _ (s₁.setTop (mkF m 46 #[.val (.int p1)] [(.int (70 : Int32)), (.int p1)]))
          by_cases hc46 : (70 : Int32) < p1
          · refine own_fs (XS.icmpYes X0.here hx rfl (pc0 := 46) (pc' := 57) rfl (hb hby own_d2_46) rfl (XT.ii_gt_t hc46) (by decide) (by decide) (Steps.refl _)) ?_
            show own_G p.tables e below _ (s₁.setTop (mkF m 57 #[.val (.int p1)] []))
            refine own_fs (XS.iconst X0.here hx rfl (hb hby own_d2_57) (Steps.refl _)) ?_
            show own_G p.tables e below _ (s₁.setTop (mkF m 58 #[.val (.int p1)] [(.int (-1 : Int32))]))
            exact own_retI X0 hx Bd.returns hlk (hb hby own_d2_58) (by decide) (by decide) e0 ⟨(by simp only [own_exp, own_exp2, own_exp3, hc20, hc26, hc3, hc40, hc46, ↓reduceIte]), N0, rfl⟩
          · refine own_fs (XS.icmpNo X0.here hx rfl (hb hby own_d2_46) rfl (XT.ii_gt_f hc46) (Steps.refl _)) ?_
            show own_G p.tables e below _ (s₁.setTop (mkF m 49 #[.val (.int p1)] []))
            refine own_fs (XS.iloadN X0.here hx rfl (hb hby own_d2_49) rfl (Steps.refl _)) ?_
            show own_G p.tables e below _ (s₁.setTop (mkF m 50 #[.val (.int p1)] [(.int p1)]))
            refine own_fs (XS.bipush X0.here hx rfl (hb hby own_d2_50) (Steps.refl _)) ?_
            show own_G p.tables e below _ (s₁.setTop (mkF m 52 #[.val (.int p1)] [(.int (65 : Int32)), (.int p1)]))
            refine own_fs (XS.isub X0.here hx rfl (hb hby own_d2_52) rfl (Steps.refl _)) ?_
            show own_G p.tables e below _ (s₁.setTop (mkF m 53 #[.val (.int p1)] [(.int (p1 - (65 : Int32)))]))
            refine own_fs (XS.bipush X0.here hx rfl (hb hby own_d2_53) (Steps.refl _)) ?_
            show own_G p.tables e below _ (s₁.setTop (mkF m 55 #[.val (.int p1)] [(.int (10 : Int32)), (.int (p1 - (65 : Int32)))]))
            refine own_fs (XS.iadd X0.here hx rfl (hb hby own_d2_55) rfl (Steps.refl _)) ?_
            show own_G p.tables e below _ (s₁.setTop (mkF m 56 #[.val (.int p1)] [(.int ((p1 - (65 : Int32)) + (10 : Int32)))]))
            exact own_retI X0 hx Bd.returns hlk (hb hby own_d2_56) (by decide) (by decide) e0 ⟨(by simp only [own_exp, own_exp2, own_exp3, hc20, hc26, hc3, hc40, hc46, ↓reduceIte]), N0, rfl⟩
      · refine own_fs (XS.icmpNo X0.here hx rfl (hb hby own_d2_26) rfl (XT.ii_gt_f hc26) (Steps.refl _)) ?_
        show own_G p.tables e below _ (s₁.setTop (mkF m 29 #[.val (.int p1)] []))
        refine own_fs (XS.iloadN X0.here hx rfl (hb hby own_d2_29) rfl (Steps.refl _)) ?_
        show own_G p.tables e below _ (s₁.setTop (mkF m 30 #[.val (.int p1)] [(.int p1)]))
        refine own_fs (XS.bipush X0.here hx rfl (hb hby own_d2_30) (Steps.refl _)) ?_
        show own_G p.tables e below _ (s₁.setTop (mkF m 32 #[.val (.int p1)] [(.int (97 : Int32)), (.int p1)]))
        refine own_fs (XS.isub X0.here hx rfl (hb hby own_d2_32) rfl (Steps.refl _)) ?_
        show own_G p.tables e below _ (s₁.setTop (mkF m 33 #[.val (.int p1)] [(.int (p1 - (97 : Int32)))]))
        refine own_fs (XS.bipush X0.here hx rfl (hb hby own_d2_33) (Steps.refl _)) ?_
        show own_G p.tables e below _ (s₁.setTop (mkF m 35 #[.val (.int p1)] [(.int (10 : Int32)), (.int (p1 - (97 : Int32)))]))
        refine own_fs (XS.iadd X0.here hx rfl (hb hby own_d2_35) rfl (Steps.refl _)) ?_
        show own_G p.tables e below _ (s₁.setTop (mkF m 36 #[.val (.int p1)] [(.int ((p1 - (97 : Int32)) + (10 : Int32)))]))
        exact own_retI X0 hx Bd.returns hlk (hb hby own_d2_36) (by decide) (by decide) e0 ⟨(by simp only [own_exp, own_exp2, own_exp3, hc20, hc26, hc3, ↓reduceIte]), N0, rfl⟩
  · refine own_fs (XS.icmpNo X0.here hx rfl (hb hby own_d2_3) rfl (XT.ii_lt_f hc3) (Steps.refl _)) ?_
    show own_G p.tables e below _ (s₁.setTop (mkF m 6 #[.val (.int p1)] []))
    refine own_fs (XS.iloadN X0.here hx rfl (hb hby own_d2_6) rfl (Steps.refl _)) ?_
    show own_G p.tables e below _ (s₁.setTop (mkF m 7 #[.val (.int p1)] [(.int p1)]))
    refine own_fs (XS.bipush X0.here hx rfl (hb hby own_d2_7) (Steps.refl _)) ?_
    show own_G p.tables e below _ (s₁.setTop (mkF m 9 #[.val (.int p1)] [(.int (57 : Int32)), (.int p1)]))
    by_cases hc9 : (57 : Int32) < p1
    · refine own_fs (XS.icmpYes X0.here hx rfl (pc0 := 9) (pc' := 17) rfl (hb hby own_d2_9) rfl (XT.ii_gt_t hc9) (by decide) (by decide) (Steps.refl _)) ?_
      show own_G p.tables e below _ (s₁.setTop (mkF m 17 #[.val (.int p1)] []))
      refine own_fs (XS.iloadN X0.here hx rfl (hb hby own_d2_17) rfl (Steps.refl _)) ?_
      show own_G p.tables e below _ (s₁.setTop (mkF m 18 #[.val (.int p1)] [(.int p1)]))
      refine own_fs (XS.bipush X0.here hx rfl (hb hby own_d2_18) (Steps.refl _)) ?_
      show own_G p.tables e below _ (s₁.setTop (mkF m 20 #[.val (.int p1)] [(.int (97 : Int32)), (.int p1)]))
      by_cases hc20 : p1 < (97 : Int32)
      · refine own_fs (XS.icmpYes X0.here hx rfl (pc0 := 20) (pc' := 37) rfl (hb hby own_d2_20) rfl (XT.ii_lt_t hc20) (by decide) (by decide) (Steps.refl _)) ?_
        show own_G p.tables e below _ (s₁.setTop (mkF m 37 #[.val (.int p1)] []))
        refine own_fs (XS.iloadN X0.here hx rfl (hb hby own_d2_37) rfl (Steps.refl _)) ?_
        show own_G p.tables e below _ (s₁.setTop (mkF m 38 #[.val (.int p1)] [(.int p1)]))
        refine own_fs (XS.bipush X0.here hx rfl (hb hby own_d2_38) (Steps.refl _)) ?_
        show own_G p.tables e below _ (s₁.setTop (mkF m 40 #[.val (.int p1)] [(.int (65 : Int32)), (.int p1)]))
        by_cases hc40 : p1 < (65 : Int32)
        · refine own_fs (XS.icmpYes X0.here hx rfl (pc0 := 40) (pc' := 57) rfl (hb hby own_d2_40) rfl (XT.ii_lt_t hc40) (by decide) (by decide) (Steps.refl _)) ?_
          show own_G p.tables e below _ (s₁.setTop (mkF m 57 #[.val (.int p1)] []))
          refine own_fs (XS.iconst X0.here hx rfl (hb hby own_d2_57) (Steps.refl _)) ?_
          show own_G p.tables e below _ (s₁.setTop (mkF m 58 #[.val (.int p1)] [(.int (-1 : Int32))]))
          exact own_retI X0 hx Bd.returns hlk (hb hby own_d2_58) (by decide) (by decide) e0 ⟨(by simp only [own_exp, own_exp2, own_exp3, hc20, hc3, hc40, hc9, ↓reduceIte]), N0, rfl⟩
        · refine own_fs (XS.icmpNo X0.here hx rfl (hb hby own_d2_40) rfl (XT.ii_lt_f hc40) (Steps.refl _)) ?_
          show own_G p.tables e below _ (s₁.setTop (mkF m 43 #[.val (.int p1)] []))
          refine own_fs (XS.iloadN X0.here hx rfl (hb hby own_d2_43) rfl (Steps.refl _)) ?_
          show own_G p.tables e below _ (s₁.setTop (mkF m 44 #[.val (.int p1)] [(.int p1)]))
          refine own_fs (XS.bipush X0.here hx rfl (hb hby own_d2_44) (Steps.refl _)) ?_
          show own_G p.tables e below _ (s₁.setTop (mkF m 46 #[.val (.int p1)] [(.int (70 : Int32)), (.int p1)]))
          by_cases hc46 : (70 : Int32) < p1
          · refine own_fs (XS.icmpYes X0.here hx rfl (pc0 := 46) (pc' := 57) rfl (hb hby own_d2_46) rfl (XT.ii_gt_t hc46) (by decide) (by decide) (Steps.refl _)) ?_
            show own_G p.tables e below _ (s₁.setTop (mkF m 57 #[.val (.int p1)] []))
            refine own_fs (XS.iconst X0.here hx rfl (hb hby own_d2_57) (Steps.refl _)) ?_
            show own_G p.tables e below _ (s₁.setTop (mkF m 58 #[.val (.int p1)] [(.int (-1 : Int32))]))
            exact own_retI X0 hx Bd.returns hlk (hb hby own_d2_58) (by decide) (by decide) e0 ⟨(by simp only [own_exp, own_exp2, own_exp3, hc20, hc3, hc40, hc46, hc9, ↓reduceIte]), N0, rfl⟩
          · refine own_fs (XS.icmpNo X0.here hx rfl (hb hby own_d2_46) rfl (XT.ii_gt_f hc46) (Steps.refl _)) ?_
            show own_G p.tables e below _ (s₁.setTop (mkF m 49 #[.val (.int p1)] []))
            refine own_fs (XS.iloadN X0.here hx rfl (hb hby own_d2_49) rfl (Steps.refl _)) ?_
            show own_G p.tables e below _ (s₁.setTop (mkF m 50 #[.val (.int p1)] [(.int p1)]))
            refine own_fs (XS.bipush X0.here hx rfl (hb hby own_d2_50) (Steps.refl _)) ?_
            show own_G p.tables e below _ (s₁.setTop (mkF m 52 #[.val (.int p1)] [(.int (65 : Int32)), (.int p1)]))
            refine own_fs (XS.isub X0.here hx rfl (hb hby own_d2_52) rfl (Steps.refl _)) ?_
            show own_G p.tables e below _ (s₁.setTop (mkF m 53 #[.val (.int p1)] [(.int (p1 - (65 : Int32)))]))
            refine own_fs (XS.bipush X0.here hx rfl (hb hby own_d2_53) (Steps.refl _)) ?_
            show own_G p.tables e below _ (s₁.setTop (mkF m 55 #[.val (.int p1)] [(.int (10 : Int32)), (.int (p1 - (65 : Int32)))]))
            refine own_fs (XS.iadd X0.here hx rfl (hb hby own_d2_55) rfl (Steps.refl _)) ?_
            show own_G p.tables e below _ (s₁.setTop (mkF m 56 #[.val (.int p1)] [(.int ((p1 - (65 : Int32)) + (10 : Int32)))]))
            exact own_retI X0 hx Bd.returns hlk (hb hby own_d2_56) (by decide) (by decide) e0 ⟨(by simp only [own_exp, own_exp2, own_exp3, hc20, hc3, hc40, hc46, hc9, ↓reduceIte]), N0, rfl⟩
      · refine own_fs (XS.icmpNo X0.here hx rfl (hb hby own_d2_20) rfl (XT.ii_lt_f hc20) (Steps.refl _)) ?_
        show own_G p.tables e below _ (s₁.setTop (mkF m 23 #[.val (.int p1)] []))
        refine own_fs (XS.iloadN X0.here hx rfl (hb hby own_d2_23) rfl (Steps.refl _)) ?_
        show own_G p.tables e below _ (s₁.setTop (mkF m 24 #[.val (.int p1)] [(.int p1)]))
        refine own_fs (XS.bipush X0.here hx rfl (hb hby own_d2_24) (Steps.refl _)) ?_
        show own_G p.tables e below _ (s₁.setTop (mkF m 26 #[.val (.int p1)] [(.int (102 : Int32)), (.int p1)]))
        by_cases hc26 : (102 : Int32) < p1
        · refine own_fs (XS.icmpYes X0.here hx rfl (pc0 := 26) (pc' := 37) rfl (hb hby own_d2_26) rfl (XT.ii_gt_t hc26) (by decide) (by decide) (Steps.refl _)) ?_
          show own_G p.tables e below _ (s₁.setTop (mkF m 37 #[.val (.int p1)] []))
          refine own_fs (XS.iloadN X0.here hx rfl (hb hby own_d2_37) rfl (Steps.refl _)) ?_
          show own_G p.tables e below _ (s₁.setTop (mkF m 38 #[.val (.int p1)] [(.int p1)]))
          refine own_fs (XS.bipush X0.here hx rfl (hb hby own_d2_38) (Steps.refl _)) ?_
          show own_G p.tables e below _ (s₁.setTop (mkF m 40 #[.val (.int p1)] [(.int (65 : Int32)), (.int p1)]))
          by_cases hc40 : p1 < (65 : Int32)
          · refine own_fs (XS.icmpYes X0.here hx rfl (pc0 := 40) (pc' := 57) rfl (hb hby own_d2_40) rfl (XT.ii_lt_t hc40) (by decide) (by decide) (Steps.refl _)) ?_
            show own_G p.tables e below _ (s₁.setTop (mkF m 57 #[.val (.int p1)] []))
            refine own_fs (XS.iconst X0.here hx rfl (hb hby own_d2_57) (Steps.refl _)) ?_
            show own_G p.tables e below _ (s₁.setTop (mkF m 58 #[.val (.int p1)] [(.int (-1 : Int32))]))
            exact own_retI X0 hx Bd.returns hlk (hb hby own_d2_58) (by decide) (by decide) e0 ⟨(by simp only [own_exp, own_exp2, own_exp3, hc20, hc26, hc3, hc40, hc9, ↓reduceIte]), N0, rfl⟩
          · refine own_fs (XS.icmpNo X0.here hx rfl (hb hby own_d2_40) rfl (XT.ii_lt_f hc40) (Steps.refl _)) ?_
            show own_G p.tables e below _ (s₁.setTop (mkF m 43 #[.val (.int p1)] []))
            refine own_fs (XS.iloadN X0.here hx rfl (hb hby own_d2_43) rfl (Steps.refl _)) ?_
            show own_G p.tables e below _ (s₁.setTop (mkF m 44 #[.val (.int p1)] [(.int p1)]))
            refine own_fs (XS.bipush X0.here hx rfl (hb hby own_d2_44) (Steps.refl _)) ?_
            show own_G p.tables e below _ (s₁.setTop (mkF m 46 #[.val (.int p1)] [(.int (70 : Int32)), (.int p1)]))
            by_cases hc46 : (70 : Int32) < p1
            · refine own_fs (XS.icmpYes X0.here hx rfl (pc0 := 46) (pc' := 57) rfl (hb hby own_d2_46) rfl (XT.ii_gt_t hc46) (by decide) (by decide) (Steps.refl _)) ?_
              show own_G p.tables e below _ (s₁.setTop (mkF m 57 #[.val (.int p1)] []))
              refine own_fs (XS.iconst X0.here hx rfl (hb hby own_d2_57) (Steps.refl _)) ?_
              show own_G p.tables e below _ (s₁.setTop (mkF m 58 #[.val (.int p1)] [(.int (-1 : Int32))]))
              exact own_retI X0 hx Bd.returns hlk (hb hby own_d2_58) (by decide) (by decide) e0 ⟨(by simp only [own_exp, own_exp2, own_exp3, hc20, hc26, hc3, hc40, hc46, hc9, ↓reduceIte]), N0, rfl⟩
            · refine own_fs (XS.icmpNo X0.here hx rfl (hb hby own_d2_46) rfl (XT.ii_gt_f hc46) (Steps.refl _)) ?_
              show own_G p.tables e below _ (s₁.setTop (mkF m 49 #[.val (.int p1)] []))
              refine own_fs (XS.iloadN X0.here hx rfl (hb hby own_d2_49) rfl (Steps.refl _)) ?_
              show own_G p.tables e below _ (s₁.setTop (mkF m 50 #[.val (.int p1)] [(.int p1)]))
              refine own_fs (XS.bipush X0.here hx rfl (hb hby own_d2_50) (Steps.refl _)) ?_
              show own_G p.tables e below _ (s₁.setTop (mkF m 52 #[.val (.int p1)] [(.int (65 : Int32)), (.int p1)]))
              refine own_fs (XS.isub X0.here hx rfl (hb hby own_d2_52) rfl (Steps.refl _)) ?_
              show own_G p.tables e below _ (s₁.setTop (mkF m 53 #[.val (.int p1)] [(.int (p1 - (65 : Int32)))]))
              refine own_fs (XS.bipush X0.here hx rfl (hb hby own_d2_53) (Steps.refl _)) ?_
              show own_G p.tables e below _ (s₁.setTop (mkF m 55 #[.val (.int p1)] [(.int (10 : Int32)), (.int (p1 - (65 : Int32)))]))
              refine own_fs (XS.iadd X0.here hx rfl (hb hby own_d2_55) rfl (Steps.refl _)) ?_
              show own_G p.tables e below _ (s₁.setTop (mkF m 56 #[.val (.int p1)] [(.int ((p1 - (65 : Int32)) + (10 : Int32)))]))
              exact own_retI X0 hx Bd.returns hlk (hb hby own_d2_56) (by decide) (by decide) e0 ⟨(by simp only [own_exp, own_exp2, own_exp3, hc20, hc26, hc3, hc40, hc46, hc9, ↓reduceIte]), N0, rfl⟩
        · refine own_fs (XS.icmpNo X0.here hx rfl (hb hby own_d2_26) rfl (XT.ii_gt_f hc26) (Steps.refl _)) ?_
          show own_G p.tables e below _ (s₁.setTop (mkF m 29 #[.val (.int p1)] []))
          refine own_fs (XS.iloadN X0.here hx rfl (hb hby own_d2_29) rfl (Steps.refl _)) ?_
          show own_G p.tables e below _ (s₁.setTop (mkF m 30 #[.val (.int p1)] [(.int p1)]))
          refine own_fs (XS.bipush X0.here hx rfl (hb hby own_d2_30) (Steps.refl _)) ?_
          show own_G p.tables e below _ (s₁.setTop (mkF m 32 #[.val (.int p1)] [(.int (97 : Int32)), (.int p1)]))
          refine own_fs (XS.isub X0.here hx rfl (hb hby own_d2_32) rfl (Steps.refl _)) ?_
          show own_G p.tables e below _ (s₁.setTop (mkF m 33 #[.val (.int p1)] [(.int (p1 - (97 : Int32)))]))
          refine own_fs (XS.bipush X0.here hx rfl (hb hby own_d2_33) (Steps.refl _)) ?_
          show own_G p.tables e below _ (s₁.setTop (mkF m 35 #[.val (.int p1)] [(.int (10 : Int32)), (.int (p1 - (97 : Int32)))]))
          refine own_fs (XS.iadd X0.here hx rfl (hb hby own_d2_35) rfl (Steps.refl _)) ?_
          show own_G p.tables e below _ (s₁.setTop (mkF m 36 #[.val (.int p1)] [(.int ((p1 - (97 : Int32)) + (10 : Int32)))]))
          exact own_retI X0 hx Bd.returns hlk (hb hby own_d2_36) (by decide) (by decide) e0 ⟨(by simp only [own_exp, own_exp2, own_exp3, hc20, hc26, hc3, hc9, ↓reduceIte]), N0, rfl⟩
    · refine own_fs (XS.icmpNo X0.here hx rfl (hb hby own_d2_9) rfl (XT.ii_gt_f hc9) (Steps.refl _)) ?_
      show own_G p.tables e below _ (s₁.setTop (mkF m 12 #[.val (.int p1)] []))
      refine own_fs (XS.iloadN X0.here hx rfl (hb hby own_d2_12) rfl (Steps.refl _)) ?_
      show own_G p.tables e below _ (s₁.setTop (mkF m 13 #[.val (.int p1)] [(.int p1)]))
      refine own_fs (XS.bipush X0.here hx rfl (hb hby own_d2_13) (Steps.refl _)) ?_
      show own_G p.tables e below _ (s₁.setTop (mkF m 15 #[.val (.int p1)] [(.int (48 : Int32)), (.int p1)]))
      refine own_fs (XS.isub X0.here hx rfl (hb hby own_d2_15) rfl (Steps.refl _)) ?_
      show own_G p.tables e below _ (s₁.setTop (mkF m 16 #[.val (.int p1)] [(.int (p1 - (48 : Int32)))]))
      exact own_retI X0 hx Bd.returns hlk (hb hby own_d2_16) (by decide) (by decide) e0 ⟨(by simp only [own_exp, own_exp2, own_exp3, hc3, hc9, ↓reduceIte]), N0, rfl⟩
theorem own_law_ef (m : MethodId) (x0 : Int32) : entryFrame m #[(.int x0)] maxLocals = mkF m 0 #[.val (.int x0), .unset] [] := by first | (simp [entryFrame, mkF, argsToLocals, Value.category, maxLocals]; done) | rfl
def own_law_Q (Z : State) (p1 : Int32) (h0 : Heap) (n0 : Nat) (v : Option Value) (h : Heap) (L : List Loc) : Prop := (v = some (.int (1 : Int32)) ∧ Fr n0 L)
set_option maxRecDepth 65536 in
set_option maxHeartbeats 40000000 in
theorem own_law (l : Launch) (Z : State) (a0 : Array Value) (hw : ∀ d ∈ tables_1, d.before a0 Z = true) (ws : List Jvm.Cond) (p1 : Int32) (h0 : Heap) (n0 : Nat) (Z0 : n0 ≤ h0.size)  :
    MetFree l x (head1 (Jvm.Cond.code x code maxLocals ret :: ws) room_1) (fun a U => a = #[(.int p1)] ∧ Z.Warmed39 U.vm ∧ U.heap = h0) (fun _ _ _ _ _ => True) (fun _ U o U' => ∃ v L, o = .returned v ∧ own_law_Q Z p1 h0 n0 v U'.heap L ∧ FrameEnd U o U' L room_1.cells room_1.slots) := by
  refine MetFree.of_bodySF (plainFor_of_name own_pn1) hisR ?_
  intro p e s m args below meth c s₁ Bd hml0 hP hK
  obtain ⟨rfl, hZ, hh⟩ := hP
  have hx := Bd.exec
  have hby := Bd.bytes
  have hlk : meth.locks = false := BodyLoose.notSynchronized Bd
  have hml : c.maxLocals = 2 := hml0
  have hown : s.vm.findClass "com/example/corbelpath/corbelpath/UrlGrammarHexDigitPinLaw" = some m.cls := findClass_of_methodNamed Bd.named
  have hnm := (name_of_methodNamed Bd.named Bd.method).1
  have X0 : Stand p l e room_1 s m #[(.int p1)] below meth c s₁ [] 0 0 := Stand.of_body Bd
  have e0 : s₁.heap = h0 := by rw [← hh, Bd.state]; rfl
  have N0 := Fr.nil n0
  refine own_start (QQ := own_law_Q Z p1 h0 n0) (rc := room_1.cells) (rs := room_1.slots) (own_law_ef m p1 ) ?_
  show own_G p.tables e below _ (s₁.setTop (mkF m 0 #[.val (.int p1), .unset] []))
  refine own_fs (XS.iloadN X0.here hx rfl (hb hby at_0) rfl (Steps.refl _)) ?_
  show own_G p.tables e below _ (s₁.setTop (mkF m 1 #[.val (.int p1), .unset] [(.int p1)]))
  refine own_fs (X0.ldcInt hx hown (mvT hZ (hw _ (List.mem_of_getElem? (i := 0) rfl))) (g := (mkF m 1 #[.val (.int p1), .unset] [(.int p1)])) rfl (hb hby at_1) _ (Steps.refl _)) ?_
  show own_G p.tables e below _ (s₁.setTop (mkF m 3 #[.val (.int p1), .unset] [(.int (65535 : Int32)), (.int p1)]))
  refine own_fs (XS.iand X0.here hx rfl (hb hby at_3) rfl (Steps.refl _)) ?_
  show own_G p.tables e below _ (s₁.setTop (mkF m 4 #[.val (.int p1), .unset] [(.int (p1 &&& (65535 : Int32)))]))
  refine own_fs (XS.i2c X0.here hx rfl (hb hby at_4) rfl (Steps.refl _)) ?_
  show own_G p.tables e below _ (s₁.setTop (mkF m 5 #[.val (.int p1), .unset] [(.int ((p1 &&& (65535 : Int32)).toUInt32.toUInt16.toUInt32.toInt32))]))
  refine own_fs (XS.istoreN X0.here hx rfl (hb hby at_5) rfl (l' := #[.val (.int p1), .val (.int ((p1 &&& (65535 : Int32)).toUInt32.toUInt16.toUInt32.toInt32))]) rfl (Steps.refl _)) ?_
  show own_G p.tables e below _ (s₁.setTop (mkF m 6 #[.val (.int p1), .val (.int ((p1 &&& (65535 : Int32)).toUInt32.toUInt16.toUInt32.toInt32))] []))
  refine own_fs (XS.iloadN X0.here hx rfl (hb hby at_6) rfl (Steps.refl _)) ?_
  show own_G p.tables e below _ (s₁.setTop (mkF m 7 #[.val (.int p1), .val (.int ((p1 &&& (65535 : Int32)).toUInt32.toUInt16.toUInt32.toInt32))] [(.int ((p1 &&& (65535 : Int32)).toUInt32.toUInt16.toUInt32.toInt32))]))
  have Zs3 : n0 ≤ h0.size := Z0
  obtain ⟨_, _, ⟨T2, L2, k2, n2⟩, -, X2, ⟨Lc2, hQ2, l2, y2, z2⟩, st2⟩ := Jvm.LawKit.callS X0 hx (y := (⟨"com/example/corbelpath/corbelpath/UrlGrammar", "hexDigit", "(C)I"⟩ : MethodName)) hown (mvT hZ (hw _ (List.mem_of_getElem? (i := 1) rfl))) (mvT hZ (hw _ (List.mem_of_getElem? (i := 2) rfl))) (mvT hZ (hw _ (List.mem_of_getElem? (i := 3) rfl))) (mvT hZ (hw _ (List.mem_of_getElem? (i := 4) rfl))) (by decide) (backOf (W := 0) (own_rhex l Z a0 hw [] ((p1 &&& (65535 : Int32)).toUInt32.toUInt16.toUInt32.toInt32) h0 n0 Zs3 ) hZ (hw _ (List.mem_of_getElem? (i := 4) rfl)) (hw _ (List.mem_of_getElem? (i := 3) rfl)) (by decide) (by decide)) (g := (mkF m 7 #[.val (.int p1), .val (.int ((p1 &&& (65535 : Int32)).toUInt32.toUInt16.toUInt32.toInt32))] [(.int ((p1 &&& (65535 : Int32)).toUInt32.toUInt16.toUInt32.toInt32))])) rfl (by rw [hml]; rfl) (argsL := [(.int ((p1 &&& (65535 : Int32)).toUInt32.toUInt16.toUInt32.toInt32))]) (rest := []) (lenOf own_pd0 rfl) rfl (by show 2 * 0 + _ ≤ _; exact Nat.le_of_eq rfl) (hb hby at_7) (fun _ _ => ⟨rfl, e0, (by decide : 0 + 0 ≤ _), (by decide : 0 + 0 ≤ _)⟩)
  dsimp only [Pt.U, Pt.locs, Pt.cells, Pt.slots] at X2 l2 y2 z2 st2 hQ2
  subst l2 y2 z2
  obtain ⟨rfl, Nq2, e2⟩ := hQ2
  have N2 := Fr.app N0 Nq2
  refine own_fs (st2 _ (Steps.refl _)) ?_
  show own_G p.tables e below _ (T2.setTop (mkF m 10 #[.val (.int p1), .val (.int ((p1 &&& (65535 : Int32)).toUInt32.toUInt16.toUInt32.toInt32))] [(.int (own_hex ((p1 &&& (65535 : Int32)).toUInt32.toUInt16.toUInt32.toInt32)))]))
  refine own_fs (XS.iloadN X2.here hx rfl (hb hby at_10) rfl (Steps.refl _)) ?_
  show own_G p.tables e below _ (T2.setTop (mkF m 11 #[.val (.int p1), .val (.int ((p1 &&& (65535 : Int32)).toUInt32.toUInt16.toUInt32.toInt32))] [(.int ((p1 &&& (65535 : Int32)).toUInt32.toUInt16.toUInt32.toInt32)), (.int (own_hex ((p1 &&& (65535 : Int32)).toUInt32.toUInt16.toUInt32.toInt32)))]))
  have Zs6 : n0 ≤ h0.size := Z0
  obtain ⟨_, _, ⟨T5, L5, k5, n5⟩, -, X5, ⟨Lc5, hQ5, l5, y5, z5⟩, st5⟩ := Jvm.LawKit.callS X2 hx (y := (⟨"com/example/corbelpath/corbelpath/UrlGrammarHexDigitPinLaw", "expected", "(C)I"⟩ : MethodName)) hown (mvT hZ (hw _ (List.mem_of_getElem? (i := 5) rfl))) (mvT hZ (hw _ (List.mem_of_getElem? (i := 6) rfl))) (mvT hZ (hw _ (List.mem_of_getElem? (i := 7) rfl))) (mvT hZ (hw _ (List.mem_of_getElem? (i := 8) rfl))) (by decide) (backOf (W := 1) (own_rexp l Z a0 hw [] ((p1 &&& (65535 : Int32)).toUInt32.toUInt16.toUInt32.toInt32) h0 n0 Zs6 ) hZ (hw _ (List.mem_of_getElem? (i := 8) rfl)) (hw _ (List.mem_of_getElem? (i := 7) rfl)) (by decide) (by decide)) (g := (mkF m 11 #[.val (.int p1), .val (.int ((p1 &&& (65535 : Int32)).toUInt32.toUInt16.toUInt32.toInt32))] [(.int ((p1 &&& (65535 : Int32)).toUInt32.toUInt16.toUInt32.toInt32)), (.int (own_hex ((p1 &&& (65535 : Int32)).toUInt32.toUInt16.toUInt32.toInt32)))])) rfl (by rw [hml]; rfl) (argsL := [(.int ((p1 &&& (65535 : Int32)).toUInt32.toUInt16.toUInt32.toInt32))]) (rest := [(.int (own_hex ((p1 &&& (65535 : Int32)).toUInt32.toUInt16.toUInt32.toInt32)))]) (lenOf own_pd0 rfl) rfl (by show 2 * 0 + _ ≤ _; exact Nat.le_of_eq rfl) (hb hby at_11) (fun _ _ => ⟨rfl, e2, (by decide : 0 + 0 ≤ _), (by decide : 0 + 0 ≤ _)⟩)
  dsimp only [Pt.U, Pt.locs, Pt.cells, Pt.slots] at X5 l5 y5 z5 st5 hQ5
  subst l5 y5 z5
  obtain ⟨rfl, Nq5, e5⟩ := hQ5
  have N5 := Fr.app N2 Nq5
  refine own_fs (st5 _ (Steps.refl _)) ?_
  show own_G p.tables e below _ (T5.setTop (mkF m 14 #[.val (.int p1), .val (.int ((p1 &&& (65535 : Int32)).toUInt32.toUInt16.toUInt32.toInt32))] [(.int (own_exp ((p1 &&& (65535 : Int32)).toUInt32.toUInt16.toUInt32.toInt32))), (.int (own_hex ((p1 &&& (65535 : Int32)).toUInt32.toUInt16.toUInt32.toInt32)))]))
  refine own_fs (XS.icmpNo X5.here hx rfl (hb hby at_14) rfl (XT.ii_ne_f (own_main p1)) (Steps.refl _)) ?_
  show own_G p.tables e below _ (T5.setTop (mkF m 17 #[.val (.int p1), .val (.int ((p1 &&& (65535 : Int32)).toUInt32.toUInt16.toUInt32.toInt32))] []))
  refine own_fs (XS.iconst X5.here hx rfl (hb hby at_17) (Steps.refl _)) ?_
  show own_G p.tables e below _ (T5.setTop (mkF m 18 #[.val (.int p1), .val (.int ((p1 &&& (65535 : Int32)).toUInt32.toUInt16.toUInt32.toInt32))] [(.int (1 : Int32))]))
  refine own_fs (XS.goto X5.here hx rfl (pc0 := 18) (pc' := 22) rfl (hb hby at_18) (by decide) (by decide) (Steps.refl _)) ?_
  show own_G p.tables e below _ (T5.setTop (mkF m 22 #[.val (.int p1), .val (.int ((p1 &&& (65535 : Int32)).toUInt32.toUInt16.toUInt32.toInt32))] [(.int (1 : Int32))]))
  exact own_retN X5 hx (t := .boolean) Bd.returns hlk (by simp) (hb hby at_22) (by decide) (by decide) e5 ⟨rfl, N5⟩
set_option maxRecDepth 65536 in
set_option maxHeartbeats 40000000 in
theorem comes_1 {Post : Tables → Env → Array Value → State → Outcome → State → Prop} (hpost : ∀ tb e args s v u, (limb_1_1.after args s (.returned v) u = true ∧ limb_1_2.after args s (.returned v) u = true ∧ True) → FrameEnd s (.returned v) u (Jvm.fieldLocs frame_1_writes args s ++ Jvm.arrayLocs frame_1_arrays args s ++ Jvm.staticLocs frame_1_statics s) 0 0 → Post tb e args s (.returned v) u) :
    ArmFor flags0 classFile x code maxLocals ret World_1 tables_1 room_1 Calls_1 rest_1 Pre_1 Post := by
  intro l hfl _ _ p e ha hc hk s m args below hf hA hF happ hP
  obtain ⟨hcalls, hrest, hpre⟩ := hP
  obtain ⟨-, -, -, hnamed, -, -, -, hat⟩ := (Spec.applies_iff hf).mp happ
  obtain ⟨hg, hn⟩ := and_e (Cond.before_iff.mp (show (Jvm.Cond.and given_1 narrow_1).before args s = true from hpre))
  obtain ⟨hcount, hg0⟩ := and_e hg
  obtain ⟨w0, rfl⟩ : ∃ w0 : Value, args = #[w0] := by
    have hs : args.size = 1 := by simpa [Cond.value, given_1] using hcount
    obtain ⟨L⟩ := args
    match L, hs with
    | [w0], _ => exact ⟨w0, rfl⟩
  have hw := fun d (hd : d ∈ tables_1) => atoms_spec (ws := Jvm.Cond.code x code maxLocals ret :: tables_1) hat d (List.mem_cons_of_mem _ hd)
  have hfit : Fit s := fun {y c} hc i hi => by
    obtain ⟨ha, rfl⟩ := Array.getElem?_eq_some_iff.mp hc
    have q := List.all_eq_true.mp ((Array.all_eq_true_iff_forall_mem.mp hF) _ (Array.getElem_mem ha)) i (List.mem_range.mpr hi)
    simpa [Array.getElem?_eq_getElem hi] using q
  obtain ⟨i0, ei0⟩ := is_v hg0
  obtain rfl : w0 = (.int i0) := Option.some.inj ei0
  obtain ⟨n, o, h1, h2, h3, _, L, rfl, ⟨rfl, N⟩, hq⟩ := own_law l s _ hw tables_1 i0  s.heap s.heap.size (Nat.le_refl _)  p e ha hc hk s m _ below hf ((Spec.applies_iff_loose hf).mp happ).1 ⟨rfl, State.Warmed39.refl s, rfl⟩ trivial
  refine ⟨n, _, h1, h2, h3, hpost _ _ _ _ _ _ ⟨Cond.after_iff.mpr rfl, Cond.after_iff.mpr (eq_i res_at (Term.int_eval (1)) rfl), trivial⟩ ⟨hq.1, hq.2.1, (hq.2.2.sift fun y hy => Or.inr (N y hy)).mono (by decide) (by decide)⟩⟩
theorem main_1_1 : Claimed_1_1 := comes_1 fun _ _ _ _ _ _ h hF => ⟨h.1, hF⟩
theorem main_1_2 : Claimed_1_2 := comes_1 fun _ _ _ _ _ _ h hF => ⟨h.2.1, hF⟩
end Jvm.Pilot.@@N@@
namespace Jvm.Pilot.@@N@@
open Jvm Jvm.ClassFile Sem Op Lib Jvm.Free Jvm.Stand Jvm.Pilot.@@N@@.Jvm.D
/-! MADE BY PROGRAM (witnessworld.py) out of the Statement's table words and the real class files: 7 classes; the members and pool entries that the words name. The judged class is class 1, her method 1. -/
namespace start1
open Jvm.ClassFile
def u (s : String) : CpInfo := .utf8 (stringToUtf16 s)
/-- a pool by its gaps: so many unusable entries, then the entry; so many at the end -/
def gap : Nat → List CpInfo → List CpInfo
  | 0, r => r
  | n + 1, r => .unusable :: gap n r
def poolList (es : List (Nat × CpInfo)) (last : Nat) : List CpInfo := es.foldr (fun e r => gap e.1 (e.2 :: r)) (gap last [])
def pool (es : List (Nat × CpInfo)) (last : Nat) : Array CpInfo := ⟨poolList es last⟩
def fileOf (pool : Array CpInfo) (this : Nat) (attrs : Array Attribute := #[]) (ms : Array MethodInfo := #[]) (fl : Nat := 33) (sup : Nat := 0) (ifs : Array Nat := #[]) (fds : Array FieldInfo := #[]) : ClassFile where
  minorVersion := 0
  majorVersion := 65
  constantPool := pool
  accessFlags := fl
  thisClass := this
  superClass := sup
  interfaces := ifs
  fields := fds
  methods := ms
  attributes := attrs
def plain (name : String) (sup : Option ClassId) : Class where
  name := name
  kind := .ordinary
  loader := none
  accessFlags := 33
  super := sup
  interfaces := #[]
  cf := none
  fields := #[]
  methods := #[]
  instanceTypes := #[]
  staticTypes := #[]
  resolved := #[]
  callSites := []
  init := .initialized
  statics := none
  mirror := none

def pool0 : Array CpInfo := pool [(5, u "<init>"), (0, u "()V"), (1, .class_ 10), (1, u "java/lang/Object")] 113

def k0m0 : Method := { name := "<init>", desc := "()V", sig := { parameters := [], returnType := none }, accessFlags := 1, code := none }
/-- java/lang/Object -/
def k0 : Class := { plain "java/lang/Object" none with
  accessFlags := 33
  interfaces := #[]
  cf := some (fileOf pool0 8 #[] #[{ accessFlags := 1, nameIndex := 5, descriptorIndex := 6, attributes := #[] }] 33 0 #[] #[])
  fields := #[]
  methods := #[k0m0]
  instanceTypes := #[]
  staticTypes := #[]
  resolved := Array.replicate 124 none
  statics := none }

def pool1 : Array CpInfo := pool [(2, .class_ 4), (1, u "java/lang/Object"), (0, u "<init>"), (0, u "()V"), (0, .integer 65535), (0, .methodref 9 10), (0, .class_ 11), (0, .nameAndType 12 13), (0, u "com/example/corbelpath/corbelpath/UrlGrammar"), (0, u "hexDigit"), (0, u "(C)I"), (0, .methodref 15 16), (0, .class_ 17), (0, .nameAndType 18 13), (0, u "com/example/corbelpath/corbelpath/UrlGrammarHexDigitPinLaw"), (0, u "expected"), (2, u "law"), (0, u "(I)Z")] 3

def k1m0 : Method := { name := "<init>", desc := "()V", sig := { parameters := [], returnType := none }, accessFlags := 2, code := none }
def k1c1 : Code := { maxStack := 2, maxLocals := 2, code := code, exceptionTable := #[], attributes := #[] }
def k1m1 : Method := { name := "law", desc := "(I)Z", sig := { parameters := [.int], returnType := some .boolean }, accessFlags := 9, code := some k1c1 }
def k1c2 : Code := { maxStack := 2, maxLocals := 1, code := method_3_code, exceptionTable := #[], attributes := #[] }
def k1m2 : Method := { name := "expected", desc := "(C)I", sig := { parameters := [.char], returnType := some .int }, accessFlags := 10, code := some k1c2 }
/-- com/example/corbelpath/corbelpath/UrlGrammarHexDigitPinLaw -/
def k1 : Class := { plain "com/example/corbelpath/corbelpath/UrlGrammarHexDigitPinLaw" (some 0) with
  accessFlags := 49
  interfaces := #[]
  cf := some (fileOf pool1 15 #[] #[{ accessFlags := 2, nameIndex := 5, descriptorIndex := 6, attributes := #[] }, { accessFlags := 9, nameIndex := 21, descriptorIndex := 22, attributes := #[] }, { accessFlags := 10, nameIndex := 18, descriptorIndex := 13, attributes := #[] }] 49 2 #[] #[])
  fields := #[]
  methods := #[k1m0, k1m1, k1m2]
  instanceTypes := #[]
  staticTypes := #[]
  resolved := Array.replicate 26 none
  statics := none }

def pool2 : Array CpInfo := pool [(1, .class_ 2), (0, u "com/example/corbelpath/corbelpath/UrlGrammar"), (1, .class_ 6), (1, u "java/lang/Object"), (0, u "<init>"), (0, u "()V"), (8, u "NAME"), (0, u "Ljava/util/regex/Pattern;"), (69, u "LOCALE"), (61, u "hexDigit"), (0, u "(C)I"), (12, u "MAX_SEGMENT_BYTES"), (0, u "I"), (2, u "MAX_PATH_BYTES"), (1, u "NAME_RULE"), (0, u "Ljava/lang/String;"), (2, u "LOCALE_RULE")] 49

def k2m0 : Method := { name := "<init>", desc := "()V", sig := { parameters := [], returnType := none }, accessFlags := 2, code := none }
def k2c1 : Code := { maxStack := 2, maxLocals := 2, code := prog_74_method_11_code, exceptionTable := #[], attributes := #[] }
def k2m1 : Method := { name := "hexDigit", desc := "(C)I", sig := { parameters := [.char], returnType := some .int }, accessFlags := 8, code := some k2c1 }
/-- com/example/corbelpath/corbelpath/UrlGrammar -/
def k2 : Class := { plain "com/example/corbelpath/corbelpath/UrlGrammar" (some 0) with
  accessFlags := 48
  interfaces := #[]
  cf := some (fileOf pool2 1 #[] #[{ accessFlags := 2, nameIndex := 7, descriptorIndex := 8, attributes := #[] }, { accessFlags := 8, nameIndex := 150, descriptorIndex := 151, attributes := #[] }] 48 4 #[] #[{ accessFlags := 24, nameIndex := 164, descriptorIndex := 165, attributes := #[] }, { accessFlags := 24, nameIndex := 168, descriptorIndex := 165, attributes := #[] }, { accessFlags := 24, nameIndex := 170, descriptorIndex := 171, attributes := #[] }, { accessFlags := 26, nameIndex := 17, descriptorIndex := 18, attributes := #[] }, { accessFlags := 24, nameIndex := 174, descriptorIndex := 171, attributes := #[] }, { accessFlags := 26, nameIndex := 88, descriptorIndex := 18, attributes := #[] }])
  fields := #[{ name := "MAX_SEGMENT_BYTES", type := .int, accessFlags := 24, slot := 0, constantValue := 0 }, { name := "MAX_PATH_BYTES", type := .int, accessFlags := 24, slot := 1, constantValue := 0 }, { name := "NAME_RULE", type := (.object "java/lang/String"), accessFlags := 24, slot := 2, constantValue := 0 }, { name := "NAME", type := (.object "java/util/regex/Pattern"), accessFlags := 26, slot := 3, constantValue := 0 }, { name := "LOCALE_RULE", type := (.object "java/lang/String"), accessFlags := 24, slot := 4, constantValue := 0 }, { name := "LOCALE", type := (.object "java/util/regex/Pattern"), accessFlags := 26, slot := 5, constantValue := 0 }]
  methods := #[k2m0, k2m1]
  instanceTypes := #[]
  staticTypes := #[.int, .int, (.object "java/lang/String"), (.object "java/util/regex/Pattern"), (.object "java/lang/String"), (.object "java/util/regex/Pattern")]
  resolved := Array.replicate 224 none
  statics := none }

def pool3 : Array CpInfo := pool [(1, u "java/lang/Cloneable"), (0, .class_ 1), (0, u "java/lang/Object"), (0, .class_ 3)] 3

/-- java/lang/Cloneable -/
def k3 : Class := { plain "java/lang/Cloneable" (some 0) with
  accessFlags := 1537
  interfaces := #[]
  cf := some (fileOf pool3 2 #[] #[] 1537 4 #[] #[])
  fields := #[]
  methods := #[]
  instanceTypes := #[]
  staticTypes := #[]
  resolved := Array.replicate 8 none
  statics := none }

def pool4 : Array CpInfo := pool [(1, u "java/io/Serializable"), (0, .class_ 1), (0, u "java/lang/Object"), (0, .class_ 3)] 3

/-- java/io/Serializable -/
def k4 : Class := { plain "java/io/Serializable" (some 0) with
  accessFlags := 1537
  interfaces := #[]
  cf := some (fileOf pool4 2 #[] #[] 1537 4 #[] #[])
  fields := #[]
  methods := #[]
  instanceTypes := #[]
  staticTypes := #[]
  resolved := Array.replicate 8 none
  statics := none }

/-- the primitive byte -/
def k5 : Class := { plain "byte" none with kind := .primitive 'B', accessFlags := 0x411 }
/-- [B -/
def k6 : Class := { plain "[B" (some 0) with kind := .array 5 .byte, interfaces := #[3, 4], accessFlags := 1041 }

def heap : Heap := #[]
def classes : Array Class := #[k0, k1, k2, k3, k4, k5, k6]
def interned : List (Array UInt16 × Addr) := []
def slotsUsed : Nat := 0
def theMethod : MethodId := ⟨1, 1⟩
def args0 : Array Value := #[.int 65]
def aboutOver (below : List Frame) : State where
  vm := { classes := classes, interned := interned.toArray }
  heap := heap
  slotsUsed := slotsUsed
  threads := #[{ frames := .invoking theMethod args0 :: below }]
def below0 : List Frame := [.native { method := ⟨0, 0⟩, args := #[] }]
def about1 : State := aboutOver below0
def p0 : Program := .bare "" "" ""
def e0 : Env := launch0.env 0 0 0
theorem w_frames : about1.frames = Frame.invoking theMethod args0 :: below0 := rfl
set_option maxRecDepth 65536 in
theorem w_args : argsFit about1.vm theMethod args0 = true := by decide +kernel
set_option maxRecDepth 65536 in
theorem w_heap : heapFits about1 = true := by decide +kernel
set_option maxRecDepth 65536 in
theorem w_runnable : about1.curStatus? = some .runnable := by decide +kernel
set_option maxRecDepth 65536 in
theorem w_alone : about1.alone = true := by decide +kernel
set_option maxRecDepth 65536 in
theorem w_named : about1.methodNamed? x = some theMethod := by decide +kernel
set_option maxRecDepth 65536 in
theorem w_hears : about1.hears theMethod below0 = true := by decide +kernel
set_option maxRecDepth 65536 in
theorem w_ripe : about1.ripe theMethod args0 below0 = true := by decide +kernel
theorem w_running : about1.status = .running := rfl
set_option maxRecDepth 65536 in
theorem w_room : about1.hasRoom e0.platform room_1 = true :=
  launch0.hasRoom_least _ room_1 (by decide +kernel) (by decide +kernel) (by decide +kernel) (by decide +kernel) (by decide +kernel) (by decide +kernel)
theorem allAtoms_all (ts : List Jvm.Cond) (a : Array Jvm.Value) (st : Jvm.State) : (allAtoms ts).before a st = ts.all (fun c => c.before a st) := by
  induction ts with
  | nil => rfl
  | cons c t ih =>
    show (Jvm.Cond.and c (allAtoms t)).before a st = _
    rw [Jvm.Cond.before_and, ih, List.all_cons]
def words1 : List Jvm.Cond := Jvm.Cond.code x code maxLocals ret :: tables_1
/-- a 'code' word, met by the world's own term for the bytes: nothing is compared byte by byte -/
theorem code_word {y : MethodName} {bytes : ByteArray} {mx : Nat} {rt : Option FieldType} {a : Array Value} {s : State} {m : MethodId} {meth : Method} {c : Code} (h1 : s.methodNamed? y = some m) (h2 : s.vm.method? m = some meth) (h3 : meth.code = some c) (h4 : c.code = bytes)
    (h5 : (c.maxLocals == mx && c.exceptionTable.isEmpty && decide (c.maxStack ≤ mostOperands) && decide (meth.sig.returnType = rt) && !meth.locks && decide (parseMethodDescriptor y.desc = some meth.sig)) = true) : (Jvm.Cond.code y bytes mx rt).before a s = true := by
  simp only [Bool.and_eq_true, beq_iff_eq, Bool.not_eq_true', decide_eq_true_eq] at h5
  obtain ⟨⟨⟨⟨⟨g1, g2⟩, g3⟩, g4⟩, g5⟩, g6⟩ := h5
  simp [Cond.before, Cond.holds, Cond.value, h1, h2, h3, h4, g1, g2, g3, g4, g5, g6]
def isCode : Jvm.Cond → Bool
  | .code _ _ _ _ => true
  | _ => false
theorem all_split {L : List Jvm.Cond} {P : Jvm.Cond → Bool} (h1 : L.all (fun c => isCode c || P c) = true) (h2 : ∀ c ∈ L.filter isCode, P c = true) : L.all P = true := by
  refine List.all_eq_true.mpr fun c hc => ?_
  have h := List.all_eq_true.mp h1 c hc
  rcases Bool.eq_false_or_eq_true (isCode c) with hi | hi
  · exact h2 c (List.mem_filter.mpr ⟨hc, hi⟩)
  · simpa [hi] using h
set_option maxRecDepth 65536 in
theorem w_c0 : (Jvm.Cond.code x code maxLocals ret).before args0 about1 = true := code_word (m := ⟨1, 1⟩) (meth := k1m1) (c := k1c1) (by decide +kernel) rfl rfl rfl (by decide +kernel)
set_option maxRecDepth 65536 in
theorem w_c1 : (Jvm.Cond.code ({ cls := "com/example/corbelpath/corbelpath/UrlGrammar", name := "hexDigit", desc := "(C)I" } : Jvm.MethodName) prog_74_method_11_code (2 : Nat) (Option.some Jvm.ClassFile.FieldType.int)).before args0 about1 = true := code_word (m := ⟨2, 1⟩) (meth := k2m1) (c := k2c1) (by decide +kernel) rfl rfl rfl (by decide +kernel)
set_option maxRecDepth 65536 in
theorem w_c2 : (Jvm.Cond.code ({ cls := "com/example/corbelpath/corbelpath/UrlGrammarHexDigitPinLaw", name := "expected", desc := "(C)I" } : Jvm.MethodName) method_3_code (1 : Nat) (Option.some Jvm.ClassFile.FieldType.int)).before args0 about1 = true := code_word (m := ⟨1, 2⟩) (meth := k1m2) (c := k1c2) (by decide +kernel) rfl rfl rfl (by decide +kernel)
def codes1 : List Jvm.Cond := [Jvm.Cond.code x code maxLocals ret, Jvm.Cond.code ({ cls := "com/example/corbelpath/corbelpath/UrlGrammar", name := "hexDigit", desc := "(C)I" } : Jvm.MethodName) prog_74_method_11_code (2 : Nat) (Option.some Jvm.ClassFile.FieldType.int), Jvm.Cond.code ({ cls := "com/example/corbelpath/corbelpath/UrlGrammarHexDigitPinLaw", name := "expected", desc := "(C)I" } : Jvm.MethodName) method_3_code (1 : Nat) (Option.some Jvm.ClassFile.FieldType.int)]
set_option maxRecDepth 65536 in
theorem codes_eq : words1.filter isCode = codes1 := rfl
theorem w_codes : ∀ c ∈ words1.filter isCode, c.before args0 about1 = true := by
  rw [codes_eq]
  intro c hc
  simp only [codes1, List.mem_cons, List.not_mem_nil, or_false] at hc
  rcases hc with rfl | rfl | rfl
  · exact w_c0
  · exact w_c1
  · exact w_c2
set_option maxRecDepth 65536 in
theorem w_t1 : words1.all (fun c => isCode c || c.before args0 about1) = true := by decide +kernel
theorem w_tables : (allAtoms (Jvm.Cond.code x code maxLocals ret :: tables_1)).before args0 about1 = true := by
  rw [allAtoms_all]
  show words1.all (fun c => c.before args0 about1) = true
  refine all_split ?_ w_codes
  rw [w_t1]
set_option maxRecDepth 65536 in
theorem w_case : (Jvm.Cond.and given_1 narrow_1).before args0 about1 = true := by decide +kernel
theorem w_applies : (headSpec (Jvm.Cond.code x code maxLocals ret :: tables_1) room_1).applies x e0.platform about1 = true :=
  (Spec.applies_iff w_frames).mpr ⟨w_running, w_runnable, w_alone, w_named, w_hears, w_ripe, w_room, w_tables⟩
theorem atStart : AtStart classFile x code maxLocals ret World_1 tables_1 room_1 Calls_1 rest_1 Pre_1 launch0 p0 e0 about1 theMethod args0 below0 :=
  ⟨lists_1, trivial, launch0.admits_env _ _ _, launch0.least_env, fairChoices_fair.cas, fairChoices_fair.clock, w_frames, w_args, w_heap, w_applies, trivial, trivial, w_case⟩
end start1
theorem witness_1 : WitnessClaimed_1 := ⟨start1.p0, start1.e0, start1.about1, start1.theMethod, start1.args0, start1.below0, start1.atStart⟩
end Jvm.Pilot.@@N@@
