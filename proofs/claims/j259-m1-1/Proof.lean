import JvmDerived
import JvmDerived.Pilot.@@N@@Statement
import JvmDerived.Pilot.@@N@@Code
set_option linter.unusedVariables false
set_option linter.unusedSimpArgs false
namespace Jvm.Pilot.@@N@@
open Jvm Jvm.ClassFile Sem Op Lib Jvm.Free Jvm.Stand Jvm.LawKit Jvm.RoadKit Bundle Jvm.Pilot.@@N@@.Jvm.D
def own_G (p : Program) (e : Env) (below : List Frame) (F : Outcome → State → Prop) (U : State) : Prop :=
  ∃ s₂ o, Steps p.tables e below U s₂ ∧ s₂.status = .running ∧ Ended s₂ below o ∧ F o s₂
section Own
variable {p : Program} {l : Launch} {e : Env} {R : Room} {s : State} {m : MethodId} {args : Array Value} {below : List Frame} {meth : Method} {c : Code} {T : State} {locs : List Loc} {cells slots : Nat} {F F0 : Outcome → State → Prop} {U V : State}
theorem own_st (st : ∀ t, Steps p.tables e below V t → Steps p.tables e below U t) (h : own_G p e below F V) : own_G p e below F U := by
  obtain ⟨s₂, o, h1, h2⟩ := h
  exact ⟨s₂, o, st _ h1, h2⟩
theorem own_tr (st : Steps p.tables e below U V) (h : own_G p e below F V) : own_G p e below F U := by
  obtain ⟨s₂, o, h1, h2⟩ := h
  exact ⟨s₂, o, st.trans h1, h2⟩
theorem own_start (h : ∀ F : Outcome → State → Prop, (∀ o U, F0 o U → F o U) → own_G p e below F U) : ∃ s₂ o, Steps p.tables e below U s₂ ∧ s₂.status = .running ∧ Ended s₂ below o ∧ F0 o s₂ := h F0 fun _ _ q => q
theorem own_retV (X : Stand p l e R s m args below meth c T locs cells slots) (hx : p.tables.exec = Jvm.exec) (hlk : meth.locks = false) (hret : meth.sig.returnType = none) {pc : Nat} {Ls : Array Slot} (hd : decode c.code pc = .ok (.return_, 1)) {K N : Nat} (hc : cells ≤ K) (hs : slots ≤ N)
    (hF : ∀ U : State, U.heap = T.heap → FrameEnd s (.returned none) U locs K N → F (.returned none) U) : own_G p e below F (T.setTop (mkF m pc Ls [])) := by
  obtain ⟨fs, hr, hrun, hended, hW, hsame⟩ := X.leave (v := none) (fun _ => rfl) hlk
  exact ⟨_, _, X.returnOut hx hret hd hr, hrun, hended, hF _ rfl ⟨⟨_, rfl⟩, hW, hsame.mono hc hs⟩⟩
theorem own_retO (X : Stand p l e R s m args below meth c T locs cells slots) (hx : p.tables.exec = Jvm.exec) (hlk : meth.locks = false) {t : FieldType} (hret : meth.sig.returnType = some t) {w : Value} {i : Instr} (hn : narrow t w = w)
    (hi : (i = .ireturn ∧ (t = .int ∨ t = .boolean ∨ t = .byte ∨ t = .char ∨ t = .short) ∧ ∃ z, w = .int z) ∨ (i = .lreturn ∧ t = .long ∧ ∃ z, w = .long z) ∨ (i = .dreturn ∧ t = .double ∧ ∃ z, w = .double z) ∨ (i = .freturn ∧ t = .float ∧ ∃ z, w = .float z) ∨ (i = .areturn ∧ t.isReference = true ∧ w.isRef = true))
    {pc : Nat} {Ls : Array Slot} {rest : List Value} (hd : decode c.code pc = .ok (i, 1)) {K N : Nat} (hc : cells ≤ K) (hs : slots ≤ N)
    (hF : ∀ U : State, U.heap = T.heap → FrameEnd s (.returned (some w)) U locs K N → F (.returned (some w)) U) : own_G p e below F (T.setTop (mkF m pc Ls (w :: rest))) := by
  obtain ⟨fs, hr, hrun, hended, hW, hsame⟩ := X.leave (v := some w) (fun h => by rw [hret] at h; cases h) hlk
  exact ⟨_, _, retOut X hx hret hn hi hd hr, hrun, hended, hF _ rfl ⟨⟨_, rfl⟩, hW, hsame.mono hc hs⟩⟩
theorem own_retA (X : Stand p l e R s m args below meth c T locs cells slots) (hx : p.tables.exec = Jvm.exec) (hlk : meth.locks = false) {t : FieldType} (hret : meth.sig.returnType = some t) {w : Value} (ht : t.isReference = true) (hw : w.isRef = true)
    {pc : Nat} {Ls : Array Slot} {rest : List Value} (hd : decode c.code pc = .ok (.areturn, 1)) {K N : Nat} (hc : cells ≤ K) (hs : slots ≤ N)
    (hF : ∀ U : State, U.heap = T.heap → FrameEnd s (.returned (some w)) U locs K N → F (.returned (some w)) U) : own_G p e below F (T.setTop (mkF m pc Ls (w :: rest))) :=
  own_retO X hx hlk hret (by cases t <;> first | rfl | (simp [FieldType.isReference] at ht)) (Or.inr (Or.inr (Or.inr (Or.inr ⟨rfl, ht, hw⟩)))) hd hc hs hF
theorem own_retL (X : Stand p l e R s m args below meth c T locs cells slots) (hx : p.tables.exec = Jvm.exec) (hlk : meth.locks = false) (hret : meth.sig.returnType = some .long) {z : Int64}
    {pc : Nat} {Ls : Array Slot} {rest : List Value} (hd : decode c.code pc = .ok (.lreturn, 1)) {K N : Nat} (hc : cells ≤ K) (hs : slots ≤ N)
    (hF : ∀ U : State, U.heap = T.heap → FrameEnd s (.returned (some (.long z))) U locs K N → F (.returned (some (.long z))) U) : own_G p e below F (T.setTop (mkF m pc Ls (.long z :: rest))) :=
  own_retO X hx hlk hret rfl (Or.inr (Or.inl ⟨rfl, rfl, z, rfl⟩)) hd hc hs hF
theorem own_retI (X : Stand p l e R s m args below meth c T locs cells slots) (hx : p.tables.exec = Jvm.exec) (hlk : meth.locks = false) (hret : meth.sig.returnType = some .int) {z : Int32}
    {pc : Nat} {Ls : Array Slot} {rest : List Value} (hd : decode c.code pc = .ok (.ireturn, 1)) {K N : Nat} (hc : cells ≤ K) (hs : slots ≤ N)
    (hF : ∀ U : State, U.heap = T.heap → FrameEnd s (.returned (some (.int z))) U locs K N → F (.returned (some (.int z))) U) : own_G p e below F (T.setTop (mkF m pc Ls (.int z :: rest))) :=
  own_retO X hx hlk hret rfl (Or.inl ⟨rfl, Or.inl rfl, z, rfl⟩) hd hc hs hF
theorem own_retN (X : Stand p l e R s m args below meth c T locs cells slots) (hx : p.tables.exec = Jvm.exec) (hlk : meth.locks = false) {t : FieldType} (hret : meth.sig.returnType = some t) {z : Int32} (hn : narrow t (.int z) = .int z) (ht : t = .int ∨ t = .boolean ∨ t = .byte ∨ t = .char ∨ t = .short)
    {pc : Nat} {Ls : Array Slot} {rest : List Value} (hd : decode c.code pc = .ok (.ireturn, 1)) {K N : Nat} (hc : cells ≤ K) (hs : slots ≤ N)
    (hF : ∀ U : State, U.heap = T.heap → FrameEnd s (.returned (some (.int z))) U locs K N → F (.returned (some (.int z))) U) : own_G p e below F (T.setTop (mkF m pc Ls (.int z :: rest))) :=
  own_retO X hx hlk hret hn (Or.inl ⟨rfl, ht, z, rfl⟩) hd hc hs hF
theorem own_since (s : State) (n : Nat) : s.Since s.vm n := ⟨State.Warmed39.refl s, fun j q hj hq => absurd (Array.getElem?_eq_some_iff.mp hq).1 (Nat.not_lt.mpr hj)⟩
theorem own_retVW {vm₁ : Vm} (X : Stand p l e R (s.setVm vm₁) m args below meth c T locs cells slots) {n : Nat} (hS : s.Since vm₁ n) (hk : n ≤ T.heap.size) (hx : p.tables.exec = Jvm.exec) (hlk : meth.locks = false) (hret : meth.sig.returnType = none) {pc : Nat} {Ls : Array Slot} (hd : decode c.code pc = .ok (.return_, 1)) {K N : Nat} (hc : cells ≤ K) (hs : slots ≤ N)
    (hF : ∀ U : State, U.heap = T.heap → U.vm = T.vm → ReturnedEndW s (.returned none) U locs K N → F (.returned none) U) : own_G p e below F (T.setTop (mkF m pc Ls [])) := by
  obtain ⟨fs, hr, hrun, hended, h1, h2, h3, h4⟩ := X.leaveW hS hk (v := none) (fun _ => rfl) hlk
  exact ⟨_, _, X.returnOut hx hret hd hr, hrun, hended, hF _ rfl rfl ⟨h1, h2, h3, h4.mono hc hs⟩⟩
theorem own_retOW {vm₁ : Vm} (X : Stand p l e R (s.setVm vm₁) m args below meth c T locs cells slots) {n : Nat} (hS : s.Since vm₁ n) (hk : n ≤ T.heap.size) (hx : p.tables.exec = Jvm.exec) (hlk : meth.locks = false) {t : FieldType} (hret : meth.sig.returnType = some t) {w : Value} {i : Instr} (hn : narrow t w = w)
    (hi : (i = .ireturn ∧ (t = .int ∨ t = .boolean ∨ t = .byte ∨ t = .char ∨ t = .short) ∧ ∃ z, w = .int z) ∨ (i = .lreturn ∧ t = .long ∧ ∃ z, w = .long z) ∨ (i = .dreturn ∧ t = .double ∧ ∃ z, w = .double z) ∨ (i = .freturn ∧ t = .float ∧ ∃ z, w = .float z) ∨ (i = .areturn ∧ t.isReference = true ∧ w.isRef = true))
    {pc : Nat} {Ls : Array Slot} {rest : List Value} (hd : decode c.code pc = .ok (i, 1)) {K N : Nat} (hc : cells ≤ K) (hs : slots ≤ N)
    (hF : ∀ U : State, U.heap = T.heap → U.vm = T.vm → ReturnedEndW s (.returned (some w)) U locs K N → F (.returned (some w)) U) : own_G p e below F (T.setTop (mkF m pc Ls (w :: rest))) := by
  obtain ⟨fs, hr, hrun, hended, h1, h2, h3, h4⟩ := X.leaveW hS hk (v := some w) (fun h => by rw [hret] at h; cases h) hlk
  exact ⟨_, _, retOut X hx hret hn hi hd hr, hrun, hended, hF _ rfl rfl ⟨h1, h2, h3, h4.mono hc hs⟩⟩
theorem own_retAW {vm₁ : Vm} (X : Stand p l e R (s.setVm vm₁) m args below meth c T locs cells slots) {n : Nat} (hS : s.Since vm₁ n) (hk : n ≤ T.heap.size) (hx : p.tables.exec = Jvm.exec) (hlk : meth.locks = false) {t : FieldType} (hret : meth.sig.returnType = some t) {w : Value} (ht : t.isReference = true) (hw : w.isRef = true)
    {pc : Nat} {Ls : Array Slot} {rest : List Value} (hd : decode c.code pc = .ok (.areturn, 1)) {K N : Nat} (hc : cells ≤ K) (hs : slots ≤ N)
    (hF : ∀ U : State, U.heap = T.heap → U.vm = T.vm → ReturnedEndW s (.returned (some w)) U locs K N → F (.returned (some w)) U) : own_G p e below F (T.setTop (mkF m pc Ls (w :: rest))) :=
  own_retOW X hS hk hx hlk hret (by cases t <;> first | rfl | (simp [FieldType.isReference] at ht)) (Or.inr (Or.inr (Or.inr (Or.inr ⟨rfl, ht, hw⟩)))) hd hc hs hF
theorem own_retNW {vm₁ : Vm} (X : Stand p l e R (s.setVm vm₁) m args below meth c T locs cells slots) {n : Nat} (hS : s.Since vm₁ n) (hk : n ≤ T.heap.size) (hx : p.tables.exec = Jvm.exec) (hlk : meth.locks = false) {t : FieldType} (hret : meth.sig.returnType = some t) {z : Int32} (hn : narrow t (.int z) = .int z) (ht : t = .int ∨ t = .boolean ∨ t = .byte ∨ t = .char ∨ t = .short)
    {pc : Nat} {Ls : Array Slot} {rest : List Value} (hd : decode c.code pc = .ok (.ireturn, 1)) {K N : Nat} (hc : cells ≤ K) (hs : slots ≤ N)
    (hF : ∀ U : State, U.heap = T.heap → U.vm = T.vm → ReturnedEndW s (.returned (some (.int z))) U locs K N → F (.returned (some (.int z))) U) : own_G p e below F (T.setTop (mkF m pc Ls (.int z :: rest))) :=
  own_retOW X hS hk hx hlk hret hn (Or.inl ⟨rfl, ht, z, rfl⟩) hd hc hs hF
theorem own_cat {v : Value} (h : v.isRef = true) : v.category = 1 := by rcases ref_cases h with rfl | ⟨a, rfl⟩ <;> rfl
theorem own_fitR {v : Value} {C : String} (h : v.isRef = true) : fits (.object C) v = true := by rcases ref_cases h with rfl | ⟨a, rfl⟩ <;> rfl
theorem own_narR {v : Value} {C : String} : narrow (.object C) v = v := by cases v <;> rfl
theorem own_fitA {v : Value} {t : FieldType} (h : v.isRef = true) : fits (.array t) v = true := by rcases ref_cases h with rfl | ⟨a, rfl⟩ <;> rfl
theorem own_narA {v : Value} {t : FieldType} : narrow (.array t) v = v := by cases v <;> rfl
theorem own_narB {b : Int32} (h : b = 0 ∨ b = 1) : narrow .boolean (.int b) = .int b := by rcases h with rfl | rfl <;> rfl
theorem own_fitB {b : Int32} (h : b = 0 ∨ b = 1) : fits .boolean (.int b) = true := by rcases h with rfl | rfl <;> rfl
theorem own_arvSafe {Z : State} {EL : List (String × Nat)} {vm : Vm} {h : Heap} {x : Addr} {k : ClassId} {ty : FieldType} {n : Int32} {vs : List Value} {d : Value} (hal : Z.vm.Alike vm) (A : Arv Z h x k ty n vs d) (ht : ty ≠ .byte) : Safe Z EL vm h x := by
  obtain ⟨c, A, -⟩ := A
  exact Safe.arr hal A ht
end Own
theorem own_len {s : State} {args : Array Value} {t : Term} {x : Addr} {cl : Cell} {z : Int32} (ht : t.eval args s none [] s = some (.ref x)) (ha : s.arrayAt? x = some cl) (h : (Jvm.Cond.eq (.length t) (.int z)).value args s none s [] = some true) : cl.slots.size < 2 ^ 31 ∧ cl.slots.size.toInt32 = z := by
  obtain ⟨u, w, e1, e2, -, -⟩ := cmp_v (Or.inl h)
  obtain ⟨a', cl', q1, q2, q3⟩ := Term.length_spec e1
  cases ht.symm.trans q1
  cases ha.symm.trans q2
  subst q3
  refine ⟨?_, gotT (Cond.eq_ints e1 (Term.int_eval z)) h⟩
  by_cases hl : cl.slots.size < 2 ^ 31
  · exact hl
  · exfalso
    have e5 : (Term.length t).eval args s none [] s = none := by
      simp only [Term.eval, ht, ha, Option.bind_eq_bind, Option.bind_some, if_neg hl]
    rw [e5] at e1
    cases e1
def own_s2 (a b : Addr) (k : Int32) : Addr := if k = 0 then a else b
def own_s4 (a b c d : Addr) (k : Int32) : Addr := if k = 0 then a else if k = 1 then b else if k = 2 then c else d
def own_en (Z : State) (C f d : String) (k : Int32) (a : Addr) : Prop := Sta Z Z.heap C f d (.ref a) ∧ Exa Z Z.heap a C ∧ Fld Z Z.heap a "java/lang/Enum" "ordinal" "I" (.int k)
theorem own_en_ne {Z : State} {C f d f' d' : String} {k k' : Int32} {a a' : Addr} (h : own_en Z C f d k a) (h' : own_en Z C f' d' k' a') (q : k ≠ k') : a ≠ a' := h.2.2.ne h'.2.2 fun e => q (by cases e; rfl)
theorem own_s2_inj {a b : Addr} (n : a ≠ b) {k k' : Int32} (hk : k = 0 ∨ k = 1) (hk' : k' = 0 ∨ k' = 1) : own_s2 a b k = own_s2 a b k' ↔ k = k' := by
  rcases hk with rfl | rfl <;> rcases hk' with rfl | rfl <;> simp [own_s2, n, Ne.symm n]
theorem own_s4_inj {a b c d : Addr} (ab : a ≠ b) (ac : a ≠ c) (ad : a ≠ d) (bc : b ≠ c) (bd : b ≠ d) (cd : c ≠ d) {k k' : Int32} (hk : k = 0 ∨ k = 1 ∨ k = 2 ∨ k = 3) (hk' : k' = 0 ∨ k' = 1 ∨ k' = 2 ∨ k' = 3) : own_s4 a b c d k = own_s4 a b c d k' ↔ k = k' := by
  rcases hk with rfl | rfl | rfl | rfl <;> rcases hk' with rfl | rfl | rfl | rfl <;> simp [own_s4, ab, ac, ad, bc, bd, cd, Ne.symm ab, Ne.symm ac, Ne.symm ad, Ne.symm bc, Ne.symm bd, Ne.symm cd]
theorem own_s2_exa {Z : State} {h : Heap} {a b : Addr} {C : String} (ha : Exa Z h a C) (hb : Exa Z h b C) (k : Int32) : Exa Z h (own_s2 a b k) C := by
  unfold own_s2
  split
  · exact ha
  · exact hb
theorem own_s4_exa {Z : State} {h : Heap} {a b c d : Addr} {C : String} (ha : Exa Z h a C) (hb : Exa Z h b C) (hc : Exa Z h c C) (hd : Exa Z h d C) (k : Int32) : Exa Z h (own_s4 a b c d k) C := by
  unfold own_s4
  split
  · exact ha
  · split
    · exact hb
    · split
      · exact hc
      · exact hd
def own_six (c : Int32) : Prop := ∃ i : Fin 64, c = Int32.ofNat i.1
def own_k0 (c : Int32) : Int32 := c &&& (1 : Int32)
def own_k1 (c : Int32) : Int32 := ((c.toUInt32 >>> ((1 : Int32) &&& 31).toUInt32).toInt32) &&& (3 : Int32)
def own_k2 (c : Int32) : Int32 := ((c.toUInt32 >>> ((3 : Int32) &&& 31).toUInt32).toInt32) &&& (1 : Int32)
def own_k3 (c : Int32) : Int32 := ((c.toUInt32 >>> ((4 : Int32) &&& 31).toUInt32).toInt32) &&& (3 : Int32)
theorem own_r0 {c : Int32} (h : own_six c) : own_k0 c = 0 ∨ own_k0 c = 1 := by
  obtain ⟨i, rfl⟩ := h
  exact (by decide +kernel : ∀ i : Fin 64, own_k0 (Int32.ofNat i.1) = 0 ∨ own_k0 (Int32.ofNat i.1) = 1) i
theorem own_r1 {c : Int32} (h : own_six c) : own_k1 c = 0 ∨ own_k1 c = 1 ∨ own_k1 c = 2 ∨ own_k1 c = 3 := by
  obtain ⟨i, rfl⟩ := h
  exact (by decide +kernel : ∀ i : Fin 64, own_k1 (Int32.ofNat i.1) = 0 ∨ own_k1 (Int32.ofNat i.1) = 1 ∨ own_k1 (Int32.ofNat i.1) = 2 ∨ own_k1 (Int32.ofNat i.1) = 3) i
theorem own_r2 {c : Int32} (h : own_six c) : own_k2 c = 0 ∨ own_k2 c = 1 := by
  obtain ⟨i, rfl⟩ := h
  exact (by decide +kernel : ∀ i : Fin 64, own_k2 (Int32.ofNat i.1) = 0 ∨ own_k2 (Int32.ofNat i.1) = 1) i
theorem own_r3 {c : Int32} (h : own_six c) : own_k3 c = 0 ∨ own_k3 c = 1 ∨ own_k3 c = 2 ∨ own_k3 c = 3 := by
  obtain ⟨i, rfl⟩ := h
  exact (by decide +kernel : ∀ i : Fin 64, own_k3 (Int32.ofNat i.1) = 0 ∨ own_k3 (Int32.ofNat i.1) = 1 ∨ own_k3 (Int32.ofNat i.1) = 2 ∨ own_k3 (Int32.ofNat i.1) = 3) i
theorem own_whole {c : Int32} (h : own_six c) : c = own_k0 c + 2 * own_k1 c + 8 * own_k2 c + 16 * own_k3 c := by
  obtain ⟨i, rfl⟩ := h
  exact (by decide +kernel : ∀ i : Fin 64, Int32.ofNat i.1 = own_k0 (Int32.ofNat i.1) + 2 * own_k1 (Int32.ofNat i.1) + 8 * own_k2 (Int32.ofNat i.1) + 16 * own_k3 (Int32.ofNat i.1)) i
theorem own_six_of {c : Int32} (h : c.toBitVec.toNat < 64) : own_six c := ⟨⟨_, h⟩, by
  apply Int32.toBitVec_inj.mp
  apply BitVec.eq_of_toNat_eq
  show c.toBitVec.toNat = (BitVec.ofNat 32 c.toBitVec.toNat).toNat
  rw [BitVec.toNat_ofNat, Nat.mod_eq_of_lt (by omega)]⟩
theorem own_m63 (x : Int32) : (x &&& (63 : Int32)).toBitVec.toNat < 2 ^ 6 := by
  have e : (x &&& (63 : Int32)).toBitVec.toNat = x.toBitVec.toNat &&& 63 := by
    simp only [Int32.toBitVec_and, BitVec.toNat_and]
    rfl
  rw [e]
  exact Nat.lt_succ_of_le Nat.and_le_right
theorem own_six_and (x : Int32) : own_six (x &&& (63 : Int32)) := own_six_of (own_m63 x)
theorem own_six_xor (x d : Int32) (hd : d.toBitVec.toNat < 2 ^ 6) : own_six ((x &&& (63 : Int32)) ^^^ d) := own_six_of (by
  rw [Int32.toBitVec_xor, BitVec.toNat_xor]
  exact Nat.xor_lt_two_pow (own_m63 x) hd)
def own_b (P : Prop) [Decidable P] : Int32 := if P then 1 else 0
theorem own_nsRoot {Z : State} {a0 : Array Value} {O K : String} {n : Nat} (w : (Jvm.Cond.noSuperclass O).before a0 Z = true) (wk : (Jvm.Cond.instantiable K n).before a0 Z = true) (hn : O ≠ K) : NS Z O K := by
  obtain ⟨c, k, h1, h2, h3, -, -⟩ := Cond.noSuperclass_spec w
  obtain ⟨t, k2, g1, -⟩ := Cond.instantiable_spec wk
  have ne := ids_ne h1 g1 hn
  refine ⟨c, t, h1, g1, fun fuel => ?_⟩
  cases fuel with
  | zero => rfl
  | succ f => simp [Vm.isSubclassAux, ne, h2, h3]
theorem own_nsNo {Z : State} {a0 : Array Value} {C S K : String} {n : Nat} (w : (Jvm.Cond.superclass C S).before a0 Z = true) (wk : (Jvm.Cond.instantiable K n).before a0 Z = true) (ns : NS Z C K) (hn : C ≠ K) : ∃ c t, Z.vm.findClass C = some c ∧ Z.vm.findClass K = some t ∧ Z.vm.assignable c t = false := by
  obtain ⟨c, t, h0, g0, n3⟩ := ns
  obtain ⟨p, k, kp, h1, h2, h3, h4, h5, -, h7⟩ := Cond.superclass_spec h0 w
  obtain ⟨t', k2, g1, g2, g3, g4, -⟩ := Cond.instantiable_spec wk
  cases g0.symm.trans g1
  have g5 : k2.isInterface = false := by
    rw [Bool.or_eq_false_iff] at g4
    exact g4.1
  have ne := ids_ne h0 g0 hn
  refine ⟨c, t, h0, g0, ?_⟩
  show Z.vm.assignableAux (255 + 1) c t = false
  simp [Vm.assignableAux, ne, h2, g2, h5, g3, g5, Vm.isSubclass, n3]
theorem d2_0 : decode method_2_code 0 = .ok (.iload_n 0, 1) := by decide +kernel
theorem d2_1 : decode method_2_code 1 = .ok (.iconst 1, 1) := by decide +kernel
theorem d2_2 : decode method_2_code 2 = .ok (.iand, 1) := by decide +kernel
theorem d2_3 : decode method_2_code 3 = .ok (.ifCond .ne 9, 3) := by decide +kernel
theorem d2_6 : decode method_2_code 6 = .ok (.getstatic 7, 3) := by decide +kernel
theorem d2_9 : decode method_2_code 9 = .ok (.goto 6, 3) := by decide +kernel
theorem d2_15 : decode method_2_code 15 = .ok (.areturn, 1) := by decide +kernel
theorem d2_12 : decode method_2_code 12 = .ok (.getstatic 13, 3) := by decide +kernel
theorem own_pn_com_example_rank_keeper_rankkeeper_board_BoardRulesEqualsPinLaw : plainName "com/example/rank_keeper/rankkeeper/board/BoardRulesEqualsPinLaw" = true := by first | (simp [plainName, overriddenIn]; done) | decide +kernel
theorem own_ef_order (m : MethodId) (x0 : Int32) : entryFrame m #[(.int x0)] 1 = mkF m 0 #[.val (.int x0)] [] := by first | (simp [entryFrame, mkF, argsToLocals, Value.category]; done) | rfl
def Q_order (Z : State) (cc : Int32) (o0 o1 : Addr) (h0 : Heap) (n0 : Nat) (v : Option Value) (h : Heap) (L : List Loc) : Prop := v = some (.ref (own_s2 o0 o1 (own_k0 cc))) ∧ Fr n0 L ∧ h = h0
set_option maxRecDepth 65536 in
set_option maxHeartbeats 40000000 in
theorem rm_order (l : Launch) (Z : State) (a0 : Array Value) (hw : ∀ d ∈ tables_1, d.before a0 Z = true) (ws : List Jvm.Cond) (cc : Int32) (o0 o1 : Addr) (h0 : Heap) (n0 : Nat) (Z0 : n0 ≤ h0.size) (O : Old Z n0 h0) (S0 : Sta Z Z.heap "com/example/rank_keeper/rankkeeper/board/Order" "DESC" "Lcom/example/rank_keeper/rankkeeper/board/Order;" (.ref o0)) (S1 : Sta Z Z.heap "com/example/rank_keeper/rankkeeper/board/Order" "ASC" "Lcom/example/rank_keeper/rankkeeper/board/Order;" (.ref o1)) :
    MetFree l (⟨"com/example/rank_keeper/rankkeeper/board/BoardRulesEqualsPinLaw", "order", "(I)Lcom/example/rank_keeper/rankkeeper/board/Order;"⟩ : MethodName) (head1 (Jvm.Cond.code (⟨"com/example/rank_keeper/rankkeeper/board/BoardRulesEqualsPinLaw", "order", "(I)Lcom/example/rank_keeper/rankkeeper/board/Order;"⟩ : MethodName) method_2_code 1 (some (.object "com/example/rank_keeper/rankkeeper/board/Order")) :: ws) ({ frames := 0, cells := 0, slots := 0, locals := 0 } : Room)) (fun a U => a = #[(.int cc)] ∧ Z.Warmed39 U.vm ∧ U.heap = h0) (fun _ _ _ _ _ => True) (fun _ U o U' => ∃ v L, o = .returned v ∧ Q_order Z cc o0 o1 h0 n0 v U'.heap L ∧ FrameEnd U o U' L ({ frames := 0, cells := 0, slots := 0, locals := 0 } : Room).cells ({ frames := 0, cells := 0, slots := 0, locals := 0 } : Room).slots) := by
  refine MetFree.of_bodySF (plainFor_of_name own_pn_com_example_rank_keeper_rankkeeper_board_BoardRulesEqualsPinLaw) hisR ?_
  intro p e s m args below meth c s₁ Bd hml0 hP hK
  obtain ⟨rfl, hZ, hh⟩ := hP
  have hx := Bd.exec
  have hby := Bd.bytes
  have hml : c.maxLocals = 1 := hml0
  have hown : s.vm.findClass "com/example/rank_keeper/rankkeeper/board/BoardRulesEqualsPinLaw" = some m.cls := findClass_of_methodNamed Bd.named
  have hnm := (name_of_methodNamed Bd.named Bd.method).1
  have X0 : Stand p l e ({ frames := 0, cells := 0, slots := 0, locals := 0 } : Room) s m #[(.int cc)] below meth c s₁ [] 0 0 := Stand.of_body Bd
  have e0 : s₁.heap = h0 := by rw [← hh, Bd.state]; rfl
  have N0 := Fr.nil n0
  refine own_start (F0 := fun o U' => ∃ v L, o = .returned v ∧ Q_order Z cc o0 o1 h0 n0 v U'.heap L ∧ FrameEnd s o U' L ({ frames := 0, cells := 0, slots := 0, locals := 0 } : Room).cells ({ frames := 0, cells := 0, slots := 0, locals := 0 } : Room).slots) fun F hF => ?_
  rw [own_ef_order m cc]
  refine own_st (V := s₁.setTop (mkF m 1 #[.val (.int cc)] [(.int cc)])) (fun _ hk => XS.iloadN X0.here hx rfl (hb hby d2_0) rfl  hk) ?_
  refine own_st (V := s₁.setTop (mkF m 2 #[.val (.int cc)] [(.int (1 : Int32)), (.int cc)])) (fun _ hk => XS.iconst X0.here hx rfl (hb hby d2_1) hk) ?_
  refine own_st (V := s₁.setTop (mkF m 3 #[.val (.int cc)] [(.int (cc &&& (1 : Int32)))])) (fun _ hk => XS.iand X0.here hx rfl (hb hby d2_2) rfl hk) ?_
  by_cases hc3 : (cc &&& (1 : Int32)) = (0 : Int32)
  · skip
    refine own_st (V := s₁.setTop (mkF m 6 #[.val (.int cc)] [])) (fun _ hk => XS.ifNo X0.here hx rfl (hb hby d2_3) rfl ((if0 _ _).trans (teq (show (cc &&& (1 : Int32)) = (0 : Int32) from hc3)).2) hk) ?_
    obtain ⟨T1, X1, e1, st1⟩ := getS2 X0 hx hZ hown (host := "") (Or.inl (hw _ (List.mem_of_getElem? (i := 10) rfl))) Via.refl e0 (S0.ext O.2) (g := (mkF m 6 #[.val (.int cc)] [])) rfl (hb hby d2_6)
    refine own_st (V := T1.setTop (mkF m 9 #[.val (.int cc)] [(.ref o0)])) st1 ?_
    refine own_st (V := T1.setTop (mkF m 15 #[.val (.int cc)] [(.ref o0)])) (fun _ hk => XS.goto X1.here hx rfl (pc0 := 9) (pc' := 15) rfl (hb hby d2_9) (by decide) (by decide) hk) ?_
    exact own_retA X1 hx Bd.notSynchronized Bd.returns rfl rfl (hb hby d2_15) (by decide) (by decide) (fun U hU hE => hF _ _ ⟨_, _, rfl, (by rw [hU, e1]; exact ⟨(by unfold own_s2 own_k0; rw [if_pos hc3]), N0, rfl⟩), hE⟩)
  · skip
    refine own_st (V := s₁.setTop (mkF m 12 #[.val (.int cc)] [])) (fun _ hk => XS.ifYes X0.here hx rfl (pc0 := 3) (pc' := 12) rfl (hb hby d2_3) rfl ((if0 _ _).trans (feq (show ¬ ((cc &&& (1 : Int32)) = (0 : Int32)) from hc3)).2) (by decide) (by decide) hk) ?_
    obtain ⟨T2, X2, e2, st2⟩ := getS2 X0 hx hZ hown (host := "") (Or.inl (hw _ (List.mem_of_getElem? (i := 86) rfl))) Via.refl e0 (S1.ext O.2) (g := (mkF m 12 #[.val (.int cc)] [])) rfl (hb hby d2_12)
    refine own_st (V := T2.setTop (mkF m 15 #[.val (.int cc)] [(.ref o1)])) st2 ?_
    exact own_retA X2 hx Bd.notSynchronized Bd.returns rfl rfl (hb hby d2_15) (by decide) (by decide) (fun U hU hE => hF _ _ ⟨_, _, rfl, (by rw [hU, e2]; exact ⟨(by unfold own_s2 own_k0; rw [if_neg hc3]), N0, rfl⟩), hE⟩)
theorem d3_0 : decode method_3_code 0 = .ok (.iload_n 0, 1) := by decide +kernel
theorem d3_1 : decode method_3_code 1 = .ok (.iconst 1, 1) := by decide +kernel
theorem d3_2 : decode method_3_code 2 = .ok (.iushr, 1) := by decide +kernel
theorem d3_3 : decode method_3_code 3 = .ok (.iconst 3, 1) := by decide +kernel
theorem d3_4 : decode method_3_code 4 = .ok (.iand, 1) := by decide +kernel
theorem d3_5 : decode method_3_code 5 = .ok (.istore_n 1, 1) := by decide +kernel
theorem d3_6 : decode method_3_code 6 = .ok (.iload_n 1, 1) := by decide +kernel
theorem d3_7 : decode method_3_code 7 = .ok (.ifCond .ne 7, 3) := by decide +kernel
theorem d3_10 : decode method_3_code 10 = .ok (.getstatic 16, 3) := by decide +kernel
theorem d3_13 : decode method_3_code 13 = .ok (.areturn, 1) := by decide +kernel
theorem d3_14 : decode method_3_code 14 = .ok (.iload_n 1, 1) := by decide +kernel
theorem d3_15 : decode method_3_code 15 = .ok (.iconst 1, 1) := by decide +kernel
theorem d3_16 : decode method_3_code 16 = .ok (.if_icmp .ne 7, 3) := by decide +kernel
theorem d3_19 : decode method_3_code 19 = .ok (.getstatic 22, 3) := by decide +kernel
theorem d3_22 : decode method_3_code 22 = .ok (.areturn, 1) := by decide +kernel
theorem d3_23 : decode method_3_code 23 = .ok (.iload_n 1, 1) := by decide +kernel
theorem d3_24 : decode method_3_code 24 = .ok (.iconst 2, 1) := by decide +kernel
theorem d3_25 : decode method_3_code 25 = .ok (.if_icmp .ne 7, 3) := by decide +kernel
theorem d3_28 : decode method_3_code 28 = .ok (.getstatic 25, 3) := by decide +kernel
theorem d3_31 : decode method_3_code 31 = .ok (.areturn, 1) := by decide +kernel
theorem d3_32 : decode method_3_code 32 = .ok (.getstatic 28, 3) := by decide +kernel
theorem d3_35 : decode method_3_code 35 = .ok (.areturn, 1) := by decide +kernel
theorem own_ef_operator (m : MethodId) (x0 : Int32) : entryFrame m #[(.int x0)] 2 = mkF m 0 #[.val (.int x0), .unset] [] := by first | (simp [entryFrame, mkF, argsToLocals, Value.category]; done) | rfl
def Q_operator (Z : State) (cc : Int32) (p0 p1 p2 p3 : Addr) (h0 : Heap) (n0 : Nat) (v : Option Value) (h : Heap) (L : List Loc) : Prop := v = some (.ref (own_s4 p0 p1 p2 p3 (own_k1 cc))) ∧ Fr n0 L ∧ h = h0
set_option maxRecDepth 65536 in
set_option maxHeartbeats 40000000 in
theorem rm_operator (l : Launch) (Z : State) (a0 : Array Value) (hw : ∀ d ∈ tables_1, d.before a0 Z = true) (ws : List Jvm.Cond) (cc : Int32) (p0 p1 p2 p3 : Addr) (h0 : Heap) (n0 : Nat) (Z0 : n0 ≤ h0.size) (O : Old Z n0 h0) (S0 : Sta Z Z.heap "com/example/rank_keeper/rankkeeper/board/Operator" "SET" "Lcom/example/rank_keeper/rankkeeper/board/Operator;" (.ref p0)) (S1 : Sta Z Z.heap "com/example/rank_keeper/rankkeeper/board/Operator" "BEST" "Lcom/example/rank_keeper/rankkeeper/board/Operator;" (.ref p1)) (S2 : Sta Z Z.heap "com/example/rank_keeper/rankkeeper/board/Operator" "INCREMENT" "Lcom/example/rank_keeper/rankkeeper/board/Operator;" (.ref p2)) (S3 : Sta Z Z.heap "com/example/rank_keeper/rankkeeper/board/Operator" "DECREMENT" "Lcom/example/rank_keeper/rankkeeper/board/Operator;" (.ref p3)) :
    MetFree l (⟨"com/example/rank_keeper/rankkeeper/board/BoardRulesEqualsPinLaw", "operator", "(I)Lcom/example/rank_keeper/rankkeeper/board/Operator;"⟩ : MethodName) (head1 (Jvm.Cond.code (⟨"com/example/rank_keeper/rankkeeper/board/BoardRulesEqualsPinLaw", "operator", "(I)Lcom/example/rank_keeper/rankkeeper/board/Operator;"⟩ : MethodName) method_3_code 2 (some (.object "com/example/rank_keeper/rankkeeper/board/Operator")) :: ws) ({ frames := 0, cells := 0, slots := 0, locals := 0 } : Room)) (fun a U => a = #[(.int cc)] ∧ Z.Warmed39 U.vm ∧ U.heap = h0) (fun _ _ _ _ _ => True) (fun _ U o U' => ∃ v L, o = .returned v ∧ Q_operator Z cc p0 p1 p2 p3 h0 n0 v U'.heap L ∧ FrameEnd U o U' L ({ frames := 0, cells := 0, slots := 0, locals := 0 } : Room).cells ({ frames := 0, cells := 0, slots := 0, locals := 0 } : Room).slots) := by
  refine MetFree.of_bodySF (plainFor_of_name own_pn_com_example_rank_keeper_rankkeeper_board_BoardRulesEqualsPinLaw) hisR ?_
  intro p e s m args below meth c s₁ Bd hml0 hP hK
  obtain ⟨rfl, hZ, hh⟩ := hP
  have hx := Bd.exec
  have hby := Bd.bytes
  have hml : c.maxLocals = 2 := hml0
  have hown : s.vm.findClass "com/example/rank_keeper/rankkeeper/board/BoardRulesEqualsPinLaw" = some m.cls := findClass_of_methodNamed Bd.named
  have hnm := (name_of_methodNamed Bd.named Bd.method).1
  have X0 : Stand p l e ({ frames := 0, cells := 0, slots := 0, locals := 0 } : Room) s m #[(.int cc)] below meth c s₁ [] 0 0 := Stand.of_body Bd
  have e0 : s₁.heap = h0 := by rw [← hh, Bd.state]; rfl
  have N0 := Fr.nil n0
  refine own_start (F0 := fun o U' => ∃ v L, o = .returned v ∧ Q_operator Z cc p0 p1 p2 p3 h0 n0 v U'.heap L ∧ FrameEnd s o U' L ({ frames := 0, cells := 0, slots := 0, locals := 0 } : Room).cells ({ frames := 0, cells := 0, slots := 0, locals := 0 } : Room).slots) fun F hF => ?_
  rw [own_ef_operator m cc]
  refine own_st (V := s₁.setTop (mkF m 1 #[.val (.int cc), .unset] [(.int cc)])) (fun _ hk => XS.iloadN X0.here hx rfl (hb hby d3_0) rfl  hk) ?_
  refine own_st (V := s₁.setTop (mkF m 2 #[.val (.int cc), .unset] [(.int (1 : Int32)), (.int cc)])) (fun _ hk => XS.iconst X0.here hx rfl (hb hby d3_1) hk) ?_
  refine own_st (V := s₁.setTop (mkF m 3 #[.val (.int cc), .unset] [(.int ((cc.toUInt32 >>> ((1 : Int32) &&& 31).toUInt32).toInt32))])) (fun _ hk => XS.iushr X0.here hx rfl (hb hby d3_2) rfl hk) ?_
  refine own_st (V := s₁.setTop (mkF m 4 #[.val (.int cc), .unset] [(.int (3 : Int32)), (.int ((cc.toUInt32 >>> ((1 : Int32) &&& 31).toUInt32).toInt32))])) (fun _ hk => XS.iconst X0.here hx rfl (hb hby d3_3) hk) ?_
  refine own_st (V := s₁.setTop (mkF m 5 #[.val (.int cc), .unset] [(.int (((cc.toUInt32 >>> ((1 : Int32) &&& 31).toUInt32).toInt32) &&& (3 : Int32)))])) (fun _ hk => XS.iand X0.here hx rfl (hb hby d3_4) rfl hk) ?_
  refine own_st (V := s₁.setTop (mkF m 6 #[.val (.int cc), .val (.int (((cc.toUInt32 >>> ((1 : Int32) &&& 31).toUInt32).toInt32) &&& (3 : Int32)))] [])) (fun _ hk => XS.istoreN X0.here hx rfl (hb hby d3_5) rfl  (l' := #[.val (.int cc), .val (.int (((cc.toUInt32 >>> ((1 : Int32) &&& 31).toUInt32).toInt32) &&& (3 : Int32)))]) rfl hk) ?_
  refine own_st (V := s₁.setTop (mkF m 7 #[.val (.int cc), .val (.int (((cc.toUInt32 >>> ((1 : Int32) &&& 31).toUInt32).toInt32) &&& (3 : Int32)))] [(.int (((cc.toUInt32 >>> ((1 : Int32) &&& 31).toUInt32).toInt32) &&& (3 : Int32)))])) (fun _ hk => XS.iloadN X0.here hx rfl (hb hby d3_6) rfl  hk) ?_
  by_cases hc7 : (((cc.toUInt32 >>> ((1 : Int32) &&& 31).toUInt32).toInt32) &&& (3 : Int32)) = (0 : Int32)
  · skip
    refine own_st (V := s₁.setTop (mkF m 10 #[.val (.int cc), .val (.int (((cc.toUInt32 >>> ((1 : Int32) &&& 31).toUInt32).toInt32) &&& (3 : Int32)))] [])) (fun _ hk => XS.ifNo X0.here hx rfl (hb hby d3_7) rfl ((if0 _ _).trans (teq (show (((cc.toUInt32 >>> ((1 : Int32) &&& 31).toUInt32).toInt32) &&& (3 : Int32)) = (0 : Int32) from hc7)).2) hk) ?_
    obtain ⟨T1, X1, e1, st1⟩ := getS2 X0 hx hZ hown (host := "") (Or.inl (hw _ (List.mem_of_getElem? (i := 16) rfl))) Via.refl e0 (S0.ext O.2) (g := (mkF m 10 #[.val (.int cc), .val (.int (((cc.toUInt32 >>> ((1 : Int32) &&& 31).toUInt32).toInt32) &&& (3 : Int32)))] [])) rfl (hb hby d3_10)
    refine own_st (V := T1.setTop (mkF m 13 #[.val (.int cc), .val (.int (((cc.toUInt32 >>> ((1 : Int32) &&& 31).toUInt32).toInt32) &&& (3 : Int32)))] [(.ref p0)])) st1 ?_
    exact own_retA X1 hx Bd.notSynchronized Bd.returns rfl rfl (hb hby d3_13) (by decide) (by decide) (fun U hU hE => hF _ _ ⟨_, _, rfl, (by rw [hU, e1]; exact ⟨(by unfold own_s4 own_k1; rw [if_pos hc7]), N0, rfl⟩), hE⟩)
  · skip
    refine own_st (V := s₁.setTop (mkF m 14 #[.val (.int cc), .val (.int (((cc.toUInt32 >>> ((1 : Int32) &&& 31).toUInt32).toInt32) &&& (3 : Int32)))] [])) (fun _ hk => XS.ifYes X0.here hx rfl (pc0 := 7) (pc' := 14) rfl (hb hby d3_7) rfl ((if0 _ _).trans (feq (show ¬ ((((cc.toUInt32 >>> ((1 : Int32) &&& 31).toUInt32).toInt32) &&& (3 : Int32)) = (0 : Int32)) from hc7)).2) (by decide) (by decide) hk) ?_
    refine own_st (V := s₁.setTop (mkF m 15 #[.val (.int cc), .val (.int (((cc.toUInt32 >>> ((1 : Int32) &&& 31).toUInt32).toInt32) &&& (3 : Int32)))] [(.int (((cc.toUInt32 >>> ((1 : Int32) &&& 31).toUInt32).toInt32) &&& (3 : Int32)))])) (fun _ hk => XS.iloadN X0.here hx rfl (hb hby d3_14) rfl  hk) ?_
    refine own_st (V := s₁.setTop (mkF m 16 #[.val (.int cc), .val (.int (((cc.toUInt32 >>> ((1 : Int32) &&& 31).toUInt32).toInt32) &&& (3 : Int32)))] [(.int (1 : Int32)), (.int (((cc.toUInt32 >>> ((1 : Int32) &&& 31).toUInt32).toInt32) &&& (3 : Int32)))])) (fun _ hk => XS.iconst X0.here hx rfl (hb hby d3_15) hk) ?_
    by_cases hc16 : (((cc.toUInt32 >>> ((1 : Int32) &&& 31).toUInt32).toInt32) &&& (3 : Int32)) = (1 : Int32)
    · skip
      refine own_st (V := s₁.setTop (mkF m 19 #[.val (.int cc), .val (.int (((cc.toUInt32 >>> ((1 : Int32) &&& 31).toUInt32).toInt32) &&& (3 : Int32)))] [])) (fun _ hk => XS.icmpNo X0.here hx rfl (hb hby d3_16) rfl (teq (show (((cc.toUInt32 >>> ((1 : Int32) &&& 31).toUInt32).toInt32) &&& (3 : Int32)) = (1 : Int32) from hc16)).2 hk) ?_
      obtain ⟨T2, X2, e2, st2⟩ := getS2 X0 hx hZ hown (host := "") (Or.inl (hw _ (List.mem_of_getElem? (i := 92) rfl))) Via.refl e0 (S1.ext O.2) (g := (mkF m 19 #[.val (.int cc), .val (.int (((cc.toUInt32 >>> ((1 : Int32) &&& 31).toUInt32).toInt32) &&& (3 : Int32)))] [])) rfl (hb hby d3_19)
      refine own_st (V := T2.setTop (mkF m 22 #[.val (.int cc), .val (.int (((cc.toUInt32 >>> ((1 : Int32) &&& 31).toUInt32).toInt32) &&& (3 : Int32)))] [(.ref p1)])) st2 ?_
      exact own_retA X2 hx Bd.notSynchronized Bd.returns rfl rfl (hb hby d3_22) (by decide) (by decide) (fun U hU hE => hF _ _ ⟨_, _, rfl, (by rw [hU, e2]; exact ⟨(by unfold own_s4 own_k1; rw [if_neg hc7, if_pos hc16]), N0, rfl⟩), hE⟩)
    · skip
      refine own_st (V := s₁.setTop (mkF m 23 #[.val (.int cc), .val (.int (((cc.toUInt32 >>> ((1 : Int32) &&& 31).toUInt32).toInt32) &&& (3 : Int32)))] [])) (fun _ hk => XS.icmpYes X0.here hx rfl (pc0 := 16) (pc' := 23) rfl (hb hby d3_16) rfl (feq (show ¬ ((((cc.toUInt32 >>> ((1 : Int32) &&& 31).toUInt32).toInt32) &&& (3 : Int32)) = (1 : Int32)) from hc16)).2 (by decide) (by decide) hk) ?_
      refine own_st (V := s₁.setTop (mkF m 24 #[.val (.int cc), .val (.int (((cc.toUInt32 >>> ((1 : Int32) &&& 31).toUInt32).toInt32) &&& (3 : Int32)))] [(.int (((cc.toUInt32 >>> ((1 : Int32) &&& 31).toUInt32).toInt32) &&& (3 : Int32)))])) (fun _ hk => XS.iloadN X0.here hx rfl (hb hby d3_23) rfl  hk) ?_
      refine own_st (V := s₁.setTop (mkF m 25 #[.val (.int cc), .val (.int (((cc.toUInt32 >>> ((1 : Int32) &&& 31).toUInt32).toInt32) &&& (3 : Int32)))] [(.int (2 : Int32)), (.int (((cc.toUInt32 >>> ((1 : Int32) &&& 31).toUInt32).toInt32) &&& (3 : Int32)))])) (fun _ hk => XS.iconst X0.here hx rfl (hb hby d3_24) hk) ?_
      by_cases hc25 : (((cc.toUInt32 >>> ((1 : Int32) &&& 31).toUInt32).toInt32) &&& (3 : Int32)) = (2 : Int32)
      · skip
        refine own_st (V := s₁.setTop (mkF m 28 #[.val (.int cc), .val (.int (((cc.toUInt32 >>> ((1 : Int32) &&& 31).toUInt32).toInt32) &&& (3 : Int32)))] [])) (fun _ hk => XS.icmpNo X0.here hx rfl (hb hby d3_25) rfl (teq (show (((cc.toUInt32 >>> ((1 : Int32) &&& 31).toUInt32).toInt32) &&& (3 : Int32)) = (2 : Int32) from hc25)).2 hk) ?_
        obtain ⟨T3, X3, e3, st3⟩ := getS2 X0 hx hZ hown (host := "") (Or.inl (hw _ (List.mem_of_getElem? (i := 82) rfl))) Via.refl e0 (S2.ext O.2) (g := (mkF m 28 #[.val (.int cc), .val (.int (((cc.toUInt32 >>> ((1 : Int32) &&& 31).toUInt32).toInt32) &&& (3 : Int32)))] [])) rfl (hb hby d3_28)
        refine own_st (V := T3.setTop (mkF m 31 #[.val (.int cc), .val (.int (((cc.toUInt32 >>> ((1 : Int32) &&& 31).toUInt32).toInt32) &&& (3 : Int32)))] [(.ref p2)])) st3 ?_
        exact own_retA X3 hx Bd.notSynchronized Bd.returns rfl rfl (hb hby d3_31) (by decide) (by decide) (fun U hU hE => hF _ _ ⟨_, _, rfl, (by rw [hU, e3]; exact ⟨(by unfold own_s4 own_k1; rw [if_neg hc7, if_neg hc16, if_pos hc25]), N0, rfl⟩), hE⟩)
      · skip
        refine own_st (V := s₁.setTop (mkF m 32 #[.val (.int cc), .val (.int (((cc.toUInt32 >>> ((1 : Int32) &&& 31).toUInt32).toInt32) &&& (3 : Int32)))] [])) (fun _ hk => XS.icmpYes X0.here hx rfl (pc0 := 25) (pc' := 32) rfl (hb hby d3_25) rfl (feq (show ¬ ((((cc.toUInt32 >>> ((1 : Int32) &&& 31).toUInt32).toInt32) &&& (3 : Int32)) = (2 : Int32)) from hc25)).2 (by decide) (by decide) hk) ?_
        obtain ⟨T4, X4, e4, st4⟩ := getS2 X0 hx hZ hown (host := "") (Or.inl (hw _ (List.mem_of_getElem? (i := 78) rfl))) Via.refl e0 (S3.ext O.2) (g := (mkF m 32 #[.val (.int cc), .val (.int (((cc.toUInt32 >>> ((1 : Int32) &&& 31).toUInt32).toInt32) &&& (3 : Int32)))] [])) rfl (hb hby d3_32)
        refine own_st (V := T4.setTop (mkF m 35 #[.val (.int cc), .val (.int (((cc.toUInt32 >>> ((1 : Int32) &&& 31).toUInt32).toInt32) &&& (3 : Int32)))] [(.ref p3)])) st4 ?_
        exact own_retA X4 hx Bd.notSynchronized Bd.returns rfl rfl (hb hby d3_35) (by decide) (by decide) (fun U hU hE => hF _ _ ⟨_, _, rfl, (by rw [hU, e4]; exact ⟨(by unfold own_s4 own_k1; rw [if_neg hc7, if_neg hc16, if_neg hc25]), N0, rfl⟩), hE⟩)
theorem d4_0 : decode method_4_code 0 = .ok (.iload_n 0, 1) := by decide +kernel
theorem d4_1 : decode method_4_code 1 = .ok (.iconst 3, 1) := by decide +kernel
theorem d4_2 : decode method_4_code 2 = .ok (.iushr, 1) := by decide +kernel
theorem d4_3 : decode method_4_code 3 = .ok (.iconst 1, 1) := by decide +kernel
theorem d4_4 : decode method_4_code 4 = .ok (.iand, 1) := by decide +kernel
theorem d4_5 : decode method_4_code 5 = .ok (.ifCond .ne 9, 3) := by decide +kernel
theorem d4_8 : decode method_4_code 8 = .ok (.getstatic 31, 3) := by decide +kernel
theorem d4_11 : decode method_4_code 11 = .ok (.goto 6, 3) := by decide +kernel
theorem d4_17 : decode method_4_code 17 = .ok (.areturn, 1) := by decide +kernel
theorem d4_14 : decode method_4_code 14 = .ok (.getstatic 37, 3) := by decide +kernel
theorem own_ef_ties (m : MethodId) (x0 : Int32) : entryFrame m #[(.int x0)] 1 = mkF m 0 #[.val (.int x0)] [] := by first | (simp [entryFrame, mkF, argsToLocals, Value.category]; done) | rfl
def Q_ties (Z : State) (cc : Int32) (t0 t1 : Addr) (h0 : Heap) (n0 : Nat) (v : Option Value) (h : Heap) (L : List Loc) : Prop := v = some (.ref (own_s2 t0 t1 (own_k2 cc))) ∧ Fr n0 L ∧ h = h0
set_option maxRecDepth 65536 in
set_option maxHeartbeats 40000000 in
theorem rm_ties (l : Launch) (Z : State) (a0 : Array Value) (hw : ∀ d ∈ tables_1, d.before a0 Z = true) (ws : List Jvm.Cond) (cc : Int32) (t0 t1 : Addr) (h0 : Heap) (n0 : Nat) (Z0 : n0 ≤ h0.size) (O : Old Z n0 h0) (S0 : Sta Z Z.heap "com/example/rank_keeper/rankkeeper/board/Ties" "SHARED" "Lcom/example/rank_keeper/rankkeeper/board/Ties;" (.ref t0)) (S1 : Sta Z Z.heap "com/example/rank_keeper/rankkeeper/board/Ties" "BY_TIME" "Lcom/example/rank_keeper/rankkeeper/board/Ties;" (.ref t1)) :
    MetFree l (⟨"com/example/rank_keeper/rankkeeper/board/BoardRulesEqualsPinLaw", "ties", "(I)Lcom/example/rank_keeper/rankkeeper/board/Ties;"⟩ : MethodName) (head1 (Jvm.Cond.code (⟨"com/example/rank_keeper/rankkeeper/board/BoardRulesEqualsPinLaw", "ties", "(I)Lcom/example/rank_keeper/rankkeeper/board/Ties;"⟩ : MethodName) method_4_code 1 (some (.object "com/example/rank_keeper/rankkeeper/board/Ties")) :: ws) ({ frames := 0, cells := 0, slots := 0, locals := 0 } : Room)) (fun a U => a = #[(.int cc)] ∧ Z.Warmed39 U.vm ∧ U.heap = h0) (fun _ _ _ _ _ => True) (fun _ U o U' => ∃ v L, o = .returned v ∧ Q_ties Z cc t0 t1 h0 n0 v U'.heap L ∧ FrameEnd U o U' L ({ frames := 0, cells := 0, slots := 0, locals := 0 } : Room).cells ({ frames := 0, cells := 0, slots := 0, locals := 0 } : Room).slots) := by
  refine MetFree.of_bodySF (plainFor_of_name own_pn_com_example_rank_keeper_rankkeeper_board_BoardRulesEqualsPinLaw) hisR ?_
  intro p e s m args below meth c s₁ Bd hml0 hP hK
  obtain ⟨rfl, hZ, hh⟩ := hP
  have hx := Bd.exec
  have hby := Bd.bytes
  have hml : c.maxLocals = 1 := hml0
  have hown : s.vm.findClass "com/example/rank_keeper/rankkeeper/board/BoardRulesEqualsPinLaw" = some m.cls := findClass_of_methodNamed Bd.named
  have hnm := (name_of_methodNamed Bd.named Bd.method).1
  have X0 : Stand p l e ({ frames := 0, cells := 0, slots := 0, locals := 0 } : Room) s m #[(.int cc)] below meth c s₁ [] 0 0 := Stand.of_body Bd
  have e0 : s₁.heap = h0 := by rw [← hh, Bd.state]; rfl
  have N0 := Fr.nil n0
  refine own_start (F0 := fun o U' => ∃ v L, o = .returned v ∧ Q_ties Z cc t0 t1 h0 n0 v U'.heap L ∧ FrameEnd s o U' L ({ frames := 0, cells := 0, slots := 0, locals := 0 } : Room).cells ({ frames := 0, cells := 0, slots := 0, locals := 0 } : Room).slots) fun F hF => ?_
  rw [own_ef_ties m cc]
  refine own_st (V := s₁.setTop (mkF m 1 #[.val (.int cc)] [(.int cc)])) (fun _ hk => XS.iloadN X0.here hx rfl (hb hby d4_0) rfl  hk) ?_
  refine own_st (V := s₁.setTop (mkF m 2 #[.val (.int cc)] [(.int (3 : Int32)), (.int cc)])) (fun _ hk => XS.iconst X0.here hx rfl (hb hby d4_1) hk) ?_
  refine own_st (V := s₁.setTop (mkF m 3 #[.val (.int cc)] [(.int ((cc.toUInt32 >>> ((3 : Int32) &&& 31).toUInt32).toInt32))])) (fun _ hk => XS.iushr X0.here hx rfl (hb hby d4_2) rfl hk) ?_
  refine own_st (V := s₁.setTop (mkF m 4 #[.val (.int cc)] [(.int (1 : Int32)), (.int ((cc.toUInt32 >>> ((3 : Int32) &&& 31).toUInt32).toInt32))])) (fun _ hk => XS.iconst X0.here hx rfl (hb hby d4_3) hk) ?_
  refine own_st (V := s₁.setTop (mkF m 5 #[.val (.int cc)] [(.int (((cc.toUInt32 >>> ((3 : Int32) &&& 31).toUInt32).toInt32) &&& (1 : Int32)))])) (fun _ hk => XS.iand X0.here hx rfl (hb hby d4_4) rfl hk) ?_
  by_cases hc5 : (((cc.toUInt32 >>> ((3 : Int32) &&& 31).toUInt32).toInt32) &&& (1 : Int32)) = (0 : Int32)
  · skip
    refine own_st (V := s₁.setTop (mkF m 8 #[.val (.int cc)] [])) (fun _ hk => XS.ifNo X0.here hx rfl (hb hby d4_5) rfl ((if0 _ _).trans (teq (show (((cc.toUInt32 >>> ((3 : Int32) &&& 31).toUInt32).toInt32) &&& (1 : Int32)) = (0 : Int32) from hc5)).2) hk) ?_
    obtain ⟨T1, X1, e1, st1⟩ := getS2 X0 hx hZ hown (host := "") (Or.inl (hw _ (List.mem_of_getElem? (i := 22) rfl))) Via.refl e0 (S0.ext O.2) (g := (mkF m 8 #[.val (.int cc)] [])) rfl (hb hby d4_8)
    refine own_st (V := T1.setTop (mkF m 11 #[.val (.int cc)] [(.ref t0)])) st1 ?_
    refine own_st (V := T1.setTop (mkF m 17 #[.val (.int cc)] [(.ref t0)])) (fun _ hk => XS.goto X1.here hx rfl (pc0 := 11) (pc' := 17) rfl (hb hby d4_11) (by decide) (by decide) hk) ?_
    exact own_retA X1 hx Bd.notSynchronized Bd.returns rfl rfl (hb hby d4_17) (by decide) (by decide) (fun U hU hE => hF _ _ ⟨_, _, rfl, (by rw [hU, e1]; exact ⟨(by unfold own_s2 own_k2; rw [if_pos hc5]), N0, rfl⟩), hE⟩)
  · skip
    refine own_st (V := s₁.setTop (mkF m 14 #[.val (.int cc)] [])) (fun _ hk => XS.ifYes X0.here hx rfl (pc0 := 5) (pc' := 14) rfl (hb hby d4_5) rfl ((if0 _ _).trans (feq (show ¬ ((((cc.toUInt32 >>> ((3 : Int32) &&& 31).toUInt32).toInt32) &&& (1 : Int32)) = (0 : Int32)) from hc5)).2) (by decide) (by decide) hk) ?_
    obtain ⟨T2, X2, e2, st2⟩ := getS2 X0 hx hZ hown (host := "") (Or.inl (hw _ (List.mem_of_getElem? (i := 80) rfl))) Via.refl e0 (S1.ext O.2) (g := (mkF m 14 #[.val (.int cc)] [])) rfl (hb hby d4_14)
    refine own_st (V := T2.setTop (mkF m 17 #[.val (.int cc)] [(.ref t1)])) st2 ?_
    exact own_retA X2 hx Bd.notSynchronized Bd.returns rfl rfl (hb hby d4_17) (by decide) (by decide) (fun U hU hE => hF _ _ ⟨_, _, rfl, (by rw [hU, e2]; exact ⟨(by unfold own_s2 own_k2; rw [if_neg hc5]), N0, rfl⟩), hE⟩)
theorem d5_0 : decode method_5_code 0 = .ok (.iload_n 0, 1) := by decide +kernel
theorem d5_1 : decode method_5_code 1 = .ok (.iconst 4, 1) := by decide +kernel
theorem d5_2 : decode method_5_code 2 = .ok (.iushr, 1) := by decide +kernel
theorem d5_3 : decode method_5_code 3 = .ok (.iconst 3, 1) := by decide +kernel
theorem d5_4 : decode method_5_code 4 = .ok (.iand, 1) := by decide +kernel
theorem d5_5 : decode method_5_code 5 = .ok (.istore_n 1, 1) := by decide +kernel
theorem d5_6 : decode method_5_code 6 = .ok (.iload_n 1, 1) := by decide +kernel
theorem d5_7 : decode method_5_code 7 = .ok (.ifCond .ne 7, 3) := by decide +kernel
theorem d5_10 : decode method_5_code 10 = .ok (.getstatic 40, 3) := by decide +kernel
theorem d5_13 : decode method_5_code 13 = .ok (.areturn, 1) := by decide +kernel
theorem d5_14 : decode method_5_code 14 = .ok (.iload_n 1, 1) := by decide +kernel
theorem d5_15 : decode method_5_code 15 = .ok (.iconst 1, 1) := by decide +kernel
theorem d5_16 : decode method_5_code 16 = .ok (.if_icmp .ne 7, 3) := by decide +kernel
theorem d5_19 : decode method_5_code 19 = .ok (.getstatic 46, 3) := by decide +kernel
theorem d5_22 : decode method_5_code 22 = .ok (.areturn, 1) := by decide +kernel
theorem d5_23 : decode method_5_code 23 = .ok (.iload_n 1, 1) := by decide +kernel
theorem d5_24 : decode method_5_code 24 = .ok (.iconst 2, 1) := by decide +kernel
theorem d5_25 : decode method_5_code 25 = .ok (.if_icmp .ne 7, 3) := by decide +kernel
theorem d5_28 : decode method_5_code 28 = .ok (.getstatic 49, 3) := by decide +kernel
theorem d5_31 : decode method_5_code 31 = .ok (.areturn, 1) := by decide +kernel
theorem d5_32 : decode method_5_code 32 = .ok (.getstatic 52, 3) := by decide +kernel
theorem d5_35 : decode method_5_code 35 = .ok (.areturn, 1) := by decide +kernel
theorem own_ef_period (m : MethodId) (x0 : Int32) : entryFrame m #[(.int x0)] 2 = mkF m 0 #[.val (.int x0), .unset] [] := by first | (simp [entryFrame, mkF, argsToLocals, Value.category]; done) | rfl
def Q_period (Z : State) (cc : Int32) (d0 d1 d2 d3 : Addr) (h0 : Heap) (n0 : Nat) (v : Option Value) (h : Heap) (L : List Loc) : Prop := v = some (.ref (own_s4 d0 d1 d2 d3 (own_k3 cc))) ∧ Fr n0 L ∧ h = h0
set_option maxRecDepth 65536 in
set_option maxHeartbeats 40000000 in
theorem rm_period (l : Launch) (Z : State) (a0 : Array Value) (hw : ∀ d ∈ tables_1, d.before a0 Z = true) (ws : List Jvm.Cond) (cc : Int32) (d0 d1 d2 d3 : Addr) (h0 : Heap) (n0 : Nat) (Z0 : n0 ≤ h0.size) (O : Old Z n0 h0) (S0 : Sta Z Z.heap "com/example/rank_keeper/rankkeeper/board/Period" "NONE" "Lcom/example/rank_keeper/rankkeeper/board/Period;" (.ref d0)) (S1 : Sta Z Z.heap "com/example/rank_keeper/rankkeeper/board/Period" "DAY" "Lcom/example/rank_keeper/rankkeeper/board/Period;" (.ref d1)) (S2 : Sta Z Z.heap "com/example/rank_keeper/rankkeeper/board/Period" "WEEK" "Lcom/example/rank_keeper/rankkeeper/board/Period;" (.ref d2)) (S3 : Sta Z Z.heap "com/example/rank_keeper/rankkeeper/board/Period" "MONTH" "Lcom/example/rank_keeper/rankkeeper/board/Period;" (.ref d3)) :
    MetFree l (⟨"com/example/rank_keeper/rankkeeper/board/BoardRulesEqualsPinLaw", "period", "(I)Lcom/example/rank_keeper/rankkeeper/board/Period;"⟩ : MethodName) (head1 (Jvm.Cond.code (⟨"com/example/rank_keeper/rankkeeper/board/BoardRulesEqualsPinLaw", "period", "(I)Lcom/example/rank_keeper/rankkeeper/board/Period;"⟩ : MethodName) method_5_code 2 (some (.object "com/example/rank_keeper/rankkeeper/board/Period")) :: ws) ({ frames := 0, cells := 0, slots := 0, locals := 0 } : Room)) (fun a U => a = #[(.int cc)] ∧ Z.Warmed39 U.vm ∧ U.heap = h0) (fun _ _ _ _ _ => True) (fun _ U o U' => ∃ v L, o = .returned v ∧ Q_period Z cc d0 d1 d2 d3 h0 n0 v U'.heap L ∧ FrameEnd U o U' L ({ frames := 0, cells := 0, slots := 0, locals := 0 } : Room).cells ({ frames := 0, cells := 0, slots := 0, locals := 0 } : Room).slots) := by
  refine MetFree.of_bodySF (plainFor_of_name own_pn_com_example_rank_keeper_rankkeeper_board_BoardRulesEqualsPinLaw) hisR ?_
  intro p e s m args below meth c s₁ Bd hml0 hP hK
  obtain ⟨rfl, hZ, hh⟩ := hP
  have hx := Bd.exec
  have hby := Bd.bytes
  have hml : c.maxLocals = 2 := hml0
  have hown : s.vm.findClass "com/example/rank_keeper/rankkeeper/board/BoardRulesEqualsPinLaw" = some m.cls := findClass_of_methodNamed Bd.named
  have hnm := (name_of_methodNamed Bd.named Bd.method).1
  have X0 : Stand p l e ({ frames := 0, cells := 0, slots := 0, locals := 0 } : Room) s m #[(.int cc)] below meth c s₁ [] 0 0 := Stand.of_body Bd
  have e0 : s₁.heap = h0 := by rw [← hh, Bd.state]; rfl
  have N0 := Fr.nil n0
  refine own_start (F0 := fun o U' => ∃ v L, o = .returned v ∧ Q_period Z cc d0 d1 d2 d3 h0 n0 v U'.heap L ∧ FrameEnd s o U' L ({ frames := 0, cells := 0, slots := 0, locals := 0 } : Room).cells ({ frames := 0, cells := 0, slots := 0, locals := 0 } : Room).slots) fun F hF => ?_
  rw [own_ef_period m cc]
  refine own_st (V := s₁.setTop (mkF m 1 #[.val (.int cc), .unset] [(.int cc)])) (fun _ hk => XS.iloadN X0.here hx rfl (hb hby d5_0) rfl  hk) ?_
  refine own_st (V := s₁.setTop (mkF m 2 #[.val (.int cc), .unset] [(.int (4 : Int32)), (.int cc)])) (fun _ hk => XS.iconst X0.here hx rfl (hb hby d5_1) hk) ?_
  refine own_st (V := s₁.setTop (mkF m 3 #[.val (.int cc), .unset] [(.int ((cc.toUInt32 >>> ((4 : Int32) &&& 31).toUInt32).toInt32))])) (fun _ hk => XS.iushr X0.here hx rfl (hb hby d5_2) rfl hk) ?_
  refine own_st (V := s₁.setTop (mkF m 4 #[.val (.int cc), .unset] [(.int (3 : Int32)), (.int ((cc.toUInt32 >>> ((4 : Int32) &&& 31).toUInt32).toInt32))])) (fun _ hk => XS.iconst X0.here hx rfl (hb hby d5_3) hk) ?_
  refine own_st (V := s₁.setTop (mkF m 5 #[.val (.int cc), .unset] [(.int (((cc.toUInt32 >>> ((4 : Int32) &&& 31).toUInt32).toInt32) &&& (3 : Int32)))])) (fun _ hk => XS.iand X0.here hx rfl (hb hby d5_4) rfl hk) ?_
  refine own_st (V := s₁.setTop (mkF m 6 #[.val (.int cc), .val (.int (((cc.toUInt32 >>> ((4 : Int32) &&& 31).toUInt32).toInt32) &&& (3 : Int32)))] [])) (fun _ hk => XS.istoreN X0.here hx rfl (hb hby d5_5) rfl  (l' := #[.val (.int cc), .val (.int (((cc.toUInt32 >>> ((4 : Int32) &&& 31).toUInt32).toInt32) &&& (3 : Int32)))]) rfl hk) ?_
  refine own_st (V := s₁.setTop (mkF m 7 #[.val (.int cc), .val (.int (((cc.toUInt32 >>> ((4 : Int32) &&& 31).toUInt32).toInt32) &&& (3 : Int32)))] [(.int (((cc.toUInt32 >>> ((4 : Int32) &&& 31).toUInt32).toInt32) &&& (3 : Int32)))])) (fun _ hk => XS.iloadN X0.here hx rfl (hb hby d5_6) rfl  hk) ?_
  by_cases hc7 : (((cc.toUInt32 >>> ((4 : Int32) &&& 31).toUInt32).toInt32) &&& (3 : Int32)) = (0 : Int32)
  · skip
    refine own_st (V := s₁.setTop (mkF m 10 #[.val (.int cc), .val (.int (((cc.toUInt32 >>> ((4 : Int32) &&& 31).toUInt32).toInt32) &&& (3 : Int32)))] [])) (fun _ hk => XS.ifNo X0.here hx rfl (hb hby d5_7) rfl ((if0 _ _).trans (teq (show (((cc.toUInt32 >>> ((4 : Int32) &&& 31).toUInt32).toInt32) &&& (3 : Int32)) = (0 : Int32) from hc7)).2) hk) ?_
    obtain ⟨T1, X1, e1, st1⟩ := getS2 X0 hx hZ hown (host := "") (Or.inl (hw _ (List.mem_of_getElem? (i := 28) rfl))) Via.refl e0 (S0.ext O.2) (g := (mkF m 10 #[.val (.int cc), .val (.int (((cc.toUInt32 >>> ((4 : Int32) &&& 31).toUInt32).toInt32) &&& (3 : Int32)))] [])) rfl (hb hby d5_10)
    refine own_st (V := T1.setTop (mkF m 13 #[.val (.int cc), .val (.int (((cc.toUInt32 >>> ((4 : Int32) &&& 31).toUInt32).toInt32) &&& (3 : Int32)))] [(.ref d0)])) st1 ?_
    exact own_retA X1 hx Bd.notSynchronized Bd.returns rfl rfl (hb hby d5_13) (by decide) (by decide) (fun U hU hE => hF _ _ ⟨_, _, rfl, (by rw [hU, e1]; exact ⟨(by unfold own_s4 own_k3; rw [if_pos hc7]), N0, rfl⟩), hE⟩)
  · skip
    refine own_st (V := s₁.setTop (mkF m 14 #[.val (.int cc), .val (.int (((cc.toUInt32 >>> ((4 : Int32) &&& 31).toUInt32).toInt32) &&& (3 : Int32)))] [])) (fun _ hk => XS.ifYes X0.here hx rfl (pc0 := 7) (pc' := 14) rfl (hb hby d5_7) rfl ((if0 _ _).trans (feq (show ¬ ((((cc.toUInt32 >>> ((4 : Int32) &&& 31).toUInt32).toInt32) &&& (3 : Int32)) = (0 : Int32)) from hc7)).2) (by decide) (by decide) hk) ?_
    refine own_st (V := s₁.setTop (mkF m 15 #[.val (.int cc), .val (.int (((cc.toUInt32 >>> ((4 : Int32) &&& 31).toUInt32).toInt32) &&& (3 : Int32)))] [(.int (((cc.toUInt32 >>> ((4 : Int32) &&& 31).toUInt32).toInt32) &&& (3 : Int32)))])) (fun _ hk => XS.iloadN X0.here hx rfl (hb hby d5_14) rfl  hk) ?_
    refine own_st (V := s₁.setTop (mkF m 16 #[.val (.int cc), .val (.int (((cc.toUInt32 >>> ((4 : Int32) &&& 31).toUInt32).toInt32) &&& (3 : Int32)))] [(.int (1 : Int32)), (.int (((cc.toUInt32 >>> ((4 : Int32) &&& 31).toUInt32).toInt32) &&& (3 : Int32)))])) (fun _ hk => XS.iconst X0.here hx rfl (hb hby d5_15) hk) ?_
    by_cases hc16 : (((cc.toUInt32 >>> ((4 : Int32) &&& 31).toUInt32).toInt32) &&& (3 : Int32)) = (1 : Int32)
    · skip
      refine own_st (V := s₁.setTop (mkF m 19 #[.val (.int cc), .val (.int (((cc.toUInt32 >>> ((4 : Int32) &&& 31).toUInt32).toInt32) &&& (3 : Int32)))] [])) (fun _ hk => XS.icmpNo X0.here hx rfl (hb hby d5_16) rfl (teq (show (((cc.toUInt32 >>> ((4 : Int32) &&& 31).toUInt32).toInt32) &&& (3 : Int32)) = (1 : Int32) from hc16)).2 hk) ?_
      obtain ⟨T2, X2, e2, st2⟩ := getS2 X0 hx hZ hown (host := "") (Or.inl (hw _ (List.mem_of_getElem? (i := 88) rfl))) Via.refl e0 (S1.ext O.2) (g := (mkF m 19 #[.val (.int cc), .val (.int (((cc.toUInt32 >>> ((4 : Int32) &&& 31).toUInt32).toInt32) &&& (3 : Int32)))] [])) rfl (hb hby d5_19)
      refine own_st (V := T2.setTop (mkF m 22 #[.val (.int cc), .val (.int (((cc.toUInt32 >>> ((4 : Int32) &&& 31).toUInt32).toInt32) &&& (3 : Int32)))] [(.ref d1)])) st2 ?_
      exact own_retA X2 hx Bd.notSynchronized Bd.returns rfl rfl (hb hby d5_22) (by decide) (by decide) (fun U hU hE => hF _ _ ⟨_, _, rfl, (by rw [hU, e2]; exact ⟨(by unfold own_s4 own_k3; rw [if_neg hc7, if_pos hc16]), N0, rfl⟩), hE⟩)
    · skip
      refine own_st (V := s₁.setTop (mkF m 23 #[.val (.int cc), .val (.int (((cc.toUInt32 >>> ((4 : Int32) &&& 31).toUInt32).toInt32) &&& (3 : Int32)))] [])) (fun _ hk => XS.icmpYes X0.here hx rfl (pc0 := 16) (pc' := 23) rfl (hb hby d5_16) rfl (feq (show ¬ ((((cc.toUInt32 >>> ((4 : Int32) &&& 31).toUInt32).toInt32) &&& (3 : Int32)) = (1 : Int32)) from hc16)).2 (by decide) (by decide) hk) ?_
      refine own_st (V := s₁.setTop (mkF m 24 #[.val (.int cc), .val (.int (((cc.toUInt32 >>> ((4 : Int32) &&& 31).toUInt32).toInt32) &&& (3 : Int32)))] [(.int (((cc.toUInt32 >>> ((4 : Int32) &&& 31).toUInt32).toInt32) &&& (3 : Int32)))])) (fun _ hk => XS.iloadN X0.here hx rfl (hb hby d5_23) rfl  hk) ?_
      refine own_st (V := s₁.setTop (mkF m 25 #[.val (.int cc), .val (.int (((cc.toUInt32 >>> ((4 : Int32) &&& 31).toUInt32).toInt32) &&& (3 : Int32)))] [(.int (2 : Int32)), (.int (((cc.toUInt32 >>> ((4 : Int32) &&& 31).toUInt32).toInt32) &&& (3 : Int32)))])) (fun _ hk => XS.iconst X0.here hx rfl (hb hby d5_24) hk) ?_
      by_cases hc25 : (((cc.toUInt32 >>> ((4 : Int32) &&& 31).toUInt32).toInt32) &&& (3 : Int32)) = (2 : Int32)
      · skip
        refine own_st (V := s₁.setTop (mkF m 28 #[.val (.int cc), .val (.int (((cc.toUInt32 >>> ((4 : Int32) &&& 31).toUInt32).toInt32) &&& (3 : Int32)))] [])) (fun _ hk => XS.icmpNo X0.here hx rfl (hb hby d5_25) rfl (teq (show (((cc.toUInt32 >>> ((4 : Int32) &&& 31).toUInt32).toInt32) &&& (3 : Int32)) = (2 : Int32) from hc25)).2 hk) ?_
        obtain ⟨T3, X3, e3, st3⟩ := getS2 X0 hx hZ hown (host := "") (Or.inl (hw _ (List.mem_of_getElem? (i := 84) rfl))) Via.refl e0 (S2.ext O.2) (g := (mkF m 28 #[.val (.int cc), .val (.int (((cc.toUInt32 >>> ((4 : Int32) &&& 31).toUInt32).toInt32) &&& (3 : Int32)))] [])) rfl (hb hby d5_28)
        refine own_st (V := T3.setTop (mkF m 31 #[.val (.int cc), .val (.int (((cc.toUInt32 >>> ((4 : Int32) &&& 31).toUInt32).toInt32) &&& (3 : Int32)))] [(.ref d2)])) st3 ?_
        exact own_retA X3 hx Bd.notSynchronized Bd.returns rfl rfl (hb hby d5_31) (by decide) (by decide) (fun U hU hE => hF _ _ ⟨_, _, rfl, (by rw [hU, e3]; exact ⟨(by unfold own_s4 own_k3; rw [if_neg hc7, if_neg hc16, if_pos hc25]), N0, rfl⟩), hE⟩)
      · skip
        refine own_st (V := s₁.setTop (mkF m 32 #[.val (.int cc), .val (.int (((cc.toUInt32 >>> ((4 : Int32) &&& 31).toUInt32).toInt32) &&& (3 : Int32)))] [])) (fun _ hk => XS.icmpYes X0.here hx rfl (pc0 := 25) (pc' := 32) rfl (hb hby d5_25) rfl (feq (show ¬ ((((cc.toUInt32 >>> ((4 : Int32) &&& 31).toUInt32).toInt32) &&& (3 : Int32)) = (2 : Int32)) from hc25)).2 (by decide) (by decide) hk) ?_
        obtain ⟨T4, X4, e4, st4⟩ := getS2 X0 hx hZ hown (host := "") (Or.inl (hw _ (List.mem_of_getElem? (i := 90) rfl))) Via.refl e0 (S3.ext O.2) (g := (mkF m 32 #[.val (.int cc), .val (.int (((cc.toUInt32 >>> ((4 : Int32) &&& 31).toUInt32).toInt32) &&& (3 : Int32)))] [])) rfl (hb hby d5_32)
        refine own_st (V := T4.setTop (mkF m 35 #[.val (.int cc), .val (.int (((cc.toUInt32 >>> ((4 : Int32) &&& 31).toUInt32).toInt32) &&& (3 : Int32)))] [(.ref d3)])) st4 ?_
        exact own_retA X4 hx Bd.notSynchronized Bd.returns rfl rfl (hb hby d5_35) (by decide) (by decide) (fun U hU hE => hF _ _ ⟨_, _, rfl, (by rw [hU, e4]; exact ⟨(by unfold own_s4 own_k3; rw [if_neg hc7, if_neg hc16, if_neg hc25]), N0, rfl⟩), hE⟩)
theorem d8_0 : decode jdk_31_method_11_code 0 = .ok (.aload_n 0, 1) := by decide +kernel
theorem d8_1 : decode jdk_31_method_11_code 1 = .ok (.ifnonnull 12, 3) := by decide +kernel
theorem d8_13 : decode jdk_31_method_11_code 13 = .ok (.aload_n 0, 1) := by decide +kernel
theorem d8_14 : decode jdk_31_method_11_code 14 = .ok (.areturn, 1) := by decide +kernel
theorem own_pn_java_util_Objects : plainName "java/util/Objects" = true := by first | (simp [plainName, overriddenIn]; done) | decide +kernel
theorem own_ef_nonnull (m : MethodId) (x0 : Addr) (x1 : Addr) : entryFrame m #[(.ref x0), (.ref x1)] 2 = mkF m 0 #[.val (.ref x0), .val (.ref x1)] [] := by first | (simp [entryFrame, mkF, argsToLocals, Value.category]; done) | rfl
def Q_nonnull (Z : State) (a1 a2 : Addr) (h0 : Heap) (n0 : Nat) (v : Option Value) (h : Heap) (L : List Loc) : Prop := v = some (.ref a1) ∧ Fr n0 L ∧ h = h0
set_option maxRecDepth 65536 in
set_option maxHeartbeats 40000000 in
theorem rm_nonnull (l : Launch) (Z : State) (a0 : Array Value) (hw : ∀ d ∈ tables_1, d.before a0 Z = true) (ws : List Jvm.Cond) (a1 a2 : Addr) (h0 : Heap) (n0 : Nat) (Z0 : n0 ≤ h0.size)  :
    MetFree l (⟨"java/util/Objects", "requireNonNull", "(Ljava/lang/Object;Ljava/lang/String;)Ljava/lang/Object;"⟩ : MethodName) (head1 (Jvm.Cond.code (⟨"java/util/Objects", "requireNonNull", "(Ljava/lang/Object;Ljava/lang/String;)Ljava/lang/Object;"⟩ : MethodName) jdk_31_method_11_code 2 (some (.object "java/lang/Object")) :: ws) ({ frames := 0, cells := 0, slots := 0, locals := 0 } : Room)) (fun a U => a = #[(.ref a1), (.ref a2)] ∧ Z.Warmed39 U.vm ∧ U.heap = h0) (fun _ _ _ _ _ => True) (fun _ U o U' => ∃ v L, o = .returned v ∧ Q_nonnull Z a1 a2 h0 n0 v U'.heap L ∧ FrameEnd U o U' L ({ frames := 0, cells := 0, slots := 0, locals := 0 } : Room).cells ({ frames := 0, cells := 0, slots := 0, locals := 0 } : Room).slots) := by
  refine MetFree.of_bodySF (plainFor_of_name own_pn_java_util_Objects) hisR ?_
  intro p e s m args below meth c s₁ Bd hml0 hP hK
  obtain ⟨rfl, hZ, hh⟩ := hP
  have hx := Bd.exec
  have hby := Bd.bytes
  have hml : c.maxLocals = 2 := hml0
  have hown : s.vm.findClass "java/util/Objects" = some m.cls := findClass_of_methodNamed Bd.named
  have hnm := (name_of_methodNamed Bd.named Bd.method).1
  have X0 : Stand p l e ({ frames := 0, cells := 0, slots := 0, locals := 0 } : Room) s m #[(.ref a1), (.ref a2)] below meth c s₁ [] 0 0 := Stand.of_body Bd
  have e0 : s₁.heap = h0 := by rw [← hh, Bd.state]; rfl
  have N0 := Fr.nil n0
  refine own_start (F0 := fun o U' => ∃ v L, o = .returned v ∧ Q_nonnull Z a1 a2 h0 n0 v U'.heap L ∧ FrameEnd s o U' L ({ frames := 0, cells := 0, slots := 0, locals := 0 } : Room).cells ({ frames := 0, cells := 0, slots := 0, locals := 0 } : Room).slots) fun F hF => ?_
  rw [own_ef_nonnull m a1 a2]
  refine own_st (V := s₁.setTop (mkF m 1 #[.val (.ref a1), .val (.ref a2)] [(.ref a1)])) (fun _ hk => XS.aloadN X0.here hx rfl (hb hby d8_0) rfl rfl hk) ?_
  refine own_st (V := s₁.setTop (mkF m 13 #[.val (.ref a1), .val (.ref a2)] [])) (fun _ hk => XS.ifnonnullYes X0.here hx rfl (pc0 := 1) (pc' := 13) rfl (hb hby d8_1) rfl (by decide) (by decide) hk) ?_
  refine own_st (V := s₁.setTop (mkF m 14 #[.val (.ref a1), .val (.ref a2)] [(.ref a1)])) (fun _ hk => XS.aloadN X0.here hx rfl (hb hby d8_13) rfl rfl hk) ?_
  exact own_retA X0 hx Bd.notSynchronized Bd.returns rfl rfl (hb hby d8_14) (by decide) (by decide) (fun U hU hE => hF _ _ ⟨_, _, rfl, (by rw [hU, e0]; exact ⟨rfl, N0, rfl⟩), hE⟩)
theorem d6_0 : decode prog_6_method_1_code 0 = .ok (.aload_n 0, 1) := by decide +kernel
theorem d6_1 : decode prog_6_method_1_code 1 = .ok (.invokespecial 1, 3) := by decide +kernel
theorem d6_4 : decode prog_6_method_1_code 4 = .ok (.aload_n 0, 1) := by decide +kernel
theorem d6_5 : decode prog_6_method_1_code 5 = .ok (.aload_n 1, 1) := by decide +kernel
theorem d6_6 : decode prog_6_method_1_code 6 = .ok (.ldc 7, 2) := by decide +kernel
theorem d6_8 : decode prog_6_method_1_code 8 = .ok (.invokestatic 9, 3) := by decide +kernel
theorem own_pd0 : parseMethodDescriptor "(Ljava/lang/Object;Ljava/lang/String;)Ljava/lang/Object;" = some ⟨[(.object "java/lang/Object"), (.object "java/lang/String")], some (.object "java/lang/Object")⟩ := by decide +kernel
theorem d6_11 : decode prog_6_method_1_code 11 = .ok (.checkcast 15, 3) := by decide +kernel
theorem d6_14 : decode prog_6_method_1_code 14 = .ok (.putfield 17, 3) := by decide +kernel
theorem d6_17 : decode prog_6_method_1_code 17 = .ok (.aload_n 0, 1) := by decide +kernel
theorem d6_18 : decode prog_6_method_1_code 18 = .ok (.aload_n 2, 1) := by decide +kernel
theorem d6_19 : decode prog_6_method_1_code 19 = .ok (.ldc 22, 2) := by decide +kernel
theorem d6_21 : decode prog_6_method_1_code 21 = .ok (.invokestatic 9, 3) := by decide +kernel
theorem d6_24 : decode prog_6_method_1_code 24 = .ok (.checkcast 24, 3) := by decide +kernel
theorem d6_27 : decode prog_6_method_1_code 27 = .ok (.putfield 26, 3) := by decide +kernel
theorem d6_30 : decode prog_6_method_1_code 30 = .ok (.aload_n 0, 1) := by decide +kernel
theorem d6_31 : decode prog_6_method_1_code 31 = .ok (.aload_n 3, 1) := by decide +kernel
theorem d6_32 : decode prog_6_method_1_code 32 = .ok (.ldc 29, 2) := by decide +kernel
theorem d6_34 : decode prog_6_method_1_code 34 = .ok (.invokestatic 9, 3) := by decide +kernel
theorem d6_37 : decode prog_6_method_1_code 37 = .ok (.checkcast 31, 3) := by decide +kernel
theorem d6_40 : decode prog_6_method_1_code 40 = .ok (.putfield 33, 3) := by decide +kernel
theorem d6_43 : decode prog_6_method_1_code 43 = .ok (.aload_n 0, 1) := by decide +kernel
theorem d6_44 : decode prog_6_method_1_code 44 = .ok (.aload 4, 2) := by decide +kernel
theorem d6_46 : decode prog_6_method_1_code 46 = .ok (.ldc 36, 2) := by decide +kernel
theorem d6_48 : decode prog_6_method_1_code 48 = .ok (.invokestatic 9, 3) := by decide +kernel
theorem d6_51 : decode prog_6_method_1_code 51 = .ok (.checkcast 38, 3) := by decide +kernel
theorem d6_54 : decode prog_6_method_1_code 54 = .ok (.putfield 40, 3) := by decide +kernel
theorem d6_57 : decode prog_6_method_1_code 57 = .ok (.return_, 1) := by decide +kernel
theorem own_pn_com_example_rank_keeper_rankkeeper_board_BoardRules : plainName "com/example/rank_keeper/rankkeeper/board/BoardRules" = true := by first | (simp [plainName, overriddenIn]; done) | decide +kernel
theorem own_ef_init (m : MethodId) (x0 : Addr) (x1 : Addr) (x2 : Addr) (x3 : Addr) (x4 : Addr) : entryFrame m #[(.ref x0), (.ref x1), (.ref x2), (.ref x3), (.ref x4)] 5 = mkF m 0 #[.val (.ref x0), .val (.ref x1), .val (.ref x2), .val (.ref x3), .val (.ref x4)] [] := by first | (simp [entryFrame, mkF, argsToLocals, Value.category]; done) | rfl
def Q_init (Z : State) (a1 : Addr) (r1 r2 r3 r4 : Addr) (u1 u2 u3 u4 : Value) (h0 : Heap) (n0 : Nat) (v : Option Value) (h : Heap) (L : List Loc) : Prop := v = none ∧ Fr n0 L ∧ Keep h0 h [a1] ∧ Exa Z h a1 "com/example/rank_keeper/rankkeeper/board/BoardRules" ∧ Fld Z h a1 "com/example/rank_keeper/rankkeeper/board/BoardRules" "order" "Lcom/example/rank_keeper/rankkeeper/board/Order;" (.ref r1) ∧ Fld Z h a1 "com/example/rank_keeper/rankkeeper/board/BoardRules" "operator" "Lcom/example/rank_keeper/rankkeeper/board/Operator;" (.ref r2) ∧ Fld Z h a1 "com/example/rank_keeper/rankkeeper/board/BoardRules" "ties" "Lcom/example/rank_keeper/rankkeeper/board/Ties;" (.ref r3) ∧ Fld Z h a1 "com/example/rank_keeper/rankkeeper/board/BoardRules" "period" "Lcom/example/rank_keeper/rankkeeper/board/Period;" (.ref r4)
set_option maxRecDepth 65536 in
set_option maxHeartbeats 40000000 in
theorem rm_init (l : Launch) (Z : State) (a0 : Array Value) (hw : ∀ d ∈ tables_1, d.before a0 Z = true) (ws : List Jvm.Cond) (a1 : Addr) (r1 r2 r3 r4 : Addr) (u1 u2 u3 u4 : Value) (h0 : Heap) (n0 : Nat) (Z0 : n0 ≤ h0.size) (E_a1 : Exa Z h0 a1 "com/example/rank_keeper/rankkeeper/board/BoardRules") (E_r1 : Exa Z h0 r1 "com/example/rank_keeper/rankkeeper/board/Order") (E_r2 : Exa Z h0 r2 "com/example/rank_keeper/rankkeeper/board/Operator") (E_r3 : Exa Z h0 r3 "com/example/rank_keeper/rankkeeper/board/Ties") (E_r4 : Exa Z h0 r4 "com/example/rank_keeper/rankkeeper/board/Period") (F_order : Fld Z h0 a1 "com/example/rank_keeper/rankkeeper/board/BoardRules" "order" "Lcom/example/rank_keeper/rankkeeper/board/Order;" u1) (F_operator : Fld Z h0 a1 "com/example/rank_keeper/rankkeeper/board/BoardRules" "operator" "Lcom/example/rank_keeper/rankkeeper/board/Operator;" u2) (F_ties : Fld Z h0 a1 "com/example/rank_keeper/rankkeeper/board/BoardRules" "ties" "Lcom/example/rank_keeper/rankkeeper/board/Ties;" u3) (F_period : Fld Z h0 a1 "com/example/rank_keeper/rankkeeper/board/BoardRules" "period" "Lcom/example/rank_keeper/rankkeeper/board/Period;" u4) (g_a1 : n0 ≤ a1) :
    MetFree l (⟨"com/example/rank_keeper/rankkeeper/board/BoardRules", "<init>", "(Lcom/example/rank_keeper/rankkeeper/board/Order;Lcom/example/rank_keeper/rankkeeper/board/Operator;Lcom/example/rank_keeper/rankkeeper/board/Ties;Lcom/example/rank_keeper/rankkeeper/board/Period;)V"⟩ : MethodName) (head1 (Jvm.Cond.code (⟨"com/example/rank_keeper/rankkeeper/board/BoardRules", "<init>", "(Lcom/example/rank_keeper/rankkeeper/board/Order;Lcom/example/rank_keeper/rankkeeper/board/Operator;Lcom/example/rank_keeper/rankkeeper/board/Ties;Lcom/example/rank_keeper/rankkeeper/board/Period;)V"⟩ : MethodName) prog_6_method_1_code 5 none :: ws) ({ frames := 1, cells := 8, slots := 108, locals := 14 } : Room)) (fun a U => a = #[(.ref a1), (.ref r1), (.ref r2), (.ref r3), (.ref r4)] ∧ Z.Warmed39 U.vm ∧ U.heap = h0) (fun _ _ _ _ _ => True) (fun _ U o U' => ∃ v L, o = .returned v ∧ Q_init Z a1 r1 r2 r3 r4 u1 u2 u3 u4 h0 n0 v U'.heap L ∧ ReturnedEndW U o U' L ({ frames := 1, cells := 8, slots := 108, locals := 14 } : Room).cells ({ frames := 1, cells := 8, slots := 108, locals := 14 } : Room).slots) := by
  refine MetFree.of_bodySF (plainFor_of_name own_pn_com_example_rank_keeper_rankkeeper_board_BoardRules) hisR ?_
  intro p e s m args below meth c s₁ Bd hml0 hP hK
  obtain ⟨rfl, hZ, hh⟩ := hP
  have hx := Bd.exec
  have hby := Bd.bytes
  have hml : c.maxLocals = 5 := hml0
  have hown : s.vm.findClass "com/example/rank_keeper/rankkeeper/board/BoardRules" = some m.cls := findClass_of_methodNamed Bd.named
  have hnm := (name_of_methodNamed Bd.named Bd.method).1
  have X0 : Stand p l e ({ frames := 1, cells := 8, slots := 108, locals := 14 } : Room) (s.setVm s.vm) m #[(.ref a1), (.ref r1), (.ref r2), (.ref r3), (.ref r4)] below meth c s₁ [] 0 0 := Stand.of_body Bd
  have e0 : s₁.heap = h0 := by rw [← hh, Bd.state]; rfl
  have N0 := Fr.nil n0
  have hZ : Z.Warmed39 (s.setVm s.vm).vm := hZ
  have hown : (s.setVm s.vm).vm.findClass "com/example/rank_keeper/rankkeeper/board/BoardRules" = some m.cls := hown
  have hS0 := own_since s h0.size
  have hk0 : h0.size ≤ h0.size := Nat.le_refl _
  refine own_start (F0 := fun o U' => ∃ v L, o = .returned v ∧ Q_init Z a1 r1 r2 r3 r4 u1 u2 u3 u4 h0 n0 v U'.heap L ∧ ReturnedEndW s o U' L ({ frames := 1, cells := 8, slots := 108, locals := 14 } : Room).cells ({ frames := 1, cells := 8, slots := 108, locals := 14 } : Room).slots) fun F hF => ?_
  rw [own_ef_init m a1 r1 r2 r3 r4]
  have K := Keep.refl h0 [a1]
  have wS : ∀ a ∈ Bundle.stringAtoms, a.before a0 Z = true := fun d hd => hw d ((by decide +kernel : ∀ d ∈ Bundle.stringAtoms, d ∈ tables_1) d hd)
  refine own_st (V := s₁.setTop (mkF m 1 #[.val (.ref a1), .val (.ref r1), .val (.ref r2), .val (.ref r3), .val (.ref r4)] [(.ref a1)])) (fun _ hk => XS.aloadN X0.here hx rfl (hb hby d6_0) rfl rfl hk) ?_
  obtain ⟨T1, X1, e1, st1⟩ := initO X0 hx hZ hown (hw _ (List.mem_of_getElem? (i := 34) rfl)) (hw _ (List.mem_of_getElem? (i := 35) rfl)) (hw _ (List.mem_of_getElem? (i := 36) rfl)) e0 (g := (mkF m 1 #[.val (.ref a1), .val (.ref r1), .val (.ref r2), .val (.ref r3), .val (.ref r4)] [(.ref a1)])) rfl (by rw [hml]; rfl) rfl (hb hby d6_1) (by decide) (W := 0) (by show 2 * 0 + _ ≤ _; exact Nat.le_of_eq rfl) (by decide)
  refine own_st (V := T1.setTop (mkF m 4 #[.val (.ref a1), .val (.ref r1), .val (.ref r2), .val (.ref r3), .val (.ref r4)] [])) st1 ?_
  refine own_st (V := T1.setTop (mkF m 5 #[.val (.ref a1), .val (.ref r1), .val (.ref r2), .val (.ref r3), .val (.ref r4)] [(.ref a1)])) (fun _ hk => XS.aloadN X1.here hx rfl (hb hby d6_4) rfl rfl hk) ?_
  refine own_st (V := T1.setTop (mkF m 6 #[.val (.ref a1), .val (.ref r1), .val (.ref r2), .val (.ref r3), .val (.ref r4)] [(.ref r1), (.ref a1)])) (fun _ hk => XS.aloadN X1.here hx rfl (hb hby d6_5) rfl rfl hk) ?_
  obtain ⟨a2, T2, h2, k2, X2, e2, E2, hS2, hk2, hZ2, hown2, st2⟩ := ldcS X1 hx hZ hown (hw _ (List.mem_of_getElem? (i := 37) rfl)) wS e1 hS0 hk0 (g := (mkF m 6 #[.val (.ref a1), .val (.ref r1), .val (.ref r2), .val (.ref r3), .val (.ref r4)] [(.ref r1), (.ref a1)])) rfl (hb hby d6_6) (n := 20) (by decide) (by decide) (by decide) (by decide)
  have E_a1 := E_a1.ext E2
  have E_r1 := E_r1.ext E2
  have F_order := F_order.ext E2
  have E_r2 := E_r2.ext E2
  have F_operator := F_operator.ext E2
  have E_r3 := E_r3.ext E2
  have F_ties := F_ties.ext E2
  have E_r4 := E_r4.ext E2
  have F_period := F_period.ext E2
  have K := K.ext E2
  have Z0 : n0 ≤ h2.size := Nat.le_trans Z0 E2.1
  refine own_st (V := T2.setTop (mkF m 8 #[.val (.ref a1), .val (.ref r1), .val (.ref r2), .val (.ref r3), .val (.ref r4)] [(.ref a2), (.ref r1), (.ref a1)])) st2 ?_
  obtain ⟨_, _, ⟨T3, L3, k3, n3⟩, -, X3, ⟨Lc3, hQ3, l3, y3, z3⟩, st3⟩ := Jvm.LawKit.callS X2 hx (y := (⟨"java/util/Objects", "requireNonNull", "(Ljava/lang/Object;Ljava/lang/String;)Ljava/lang/Object;"⟩ : MethodName)) hown2 (mvT hZ2 (hw _ (List.mem_of_getElem? (i := 45) rfl))) (mvT hZ2 (hw _ (List.mem_of_getElem? (i := 46) rfl))) (mvT hZ2 (hw _ (List.mem_of_getElem? (i := 47) rfl))) (mvT hZ2 (hw _ (List.mem_of_getElem? (i := 48) rfl))) (by decide) (backOf (W := 1) (rm_nonnull l Z a0 hw [] r1 a2 h2 n0 Z0) hZ2 (hw _ (List.mem_of_getElem? (i := 48) rfl)) (hw _ (List.mem_of_getElem? (i := 47) rfl)) (by decide) (by decide)) (g := (mkF m 8 #[.val (.ref a1), .val (.ref r1), .val (.ref r2), .val (.ref r3), .val (.ref r4)] [(.ref a2), (.ref r1), (.ref a1)])) rfl (by rw [hml]; rfl) (argsL := [(.ref r1), (.ref a2)]) (rest := [(.ref a1)]) (lenOf own_pd0 rfl) rfl (by show 2 * 0 + _ ≤ _; exact Nat.le_of_eq rfl) (hb hby d6_8) (fun _ _ => ⟨rfl, e2, (by decide : 2 + 0 ≤ _), (by decide : 24 + 0 ≤ _)⟩)
  dsimp only [Pt.U, Pt.locs, Pt.cells, Pt.slots] at X3 l3 y3 z3 st3 hQ3
  subst l3 y3 z3
  obtain ⟨rfl, N3q, es3⟩ := hQ3
  have N3 := Fr.app N0 N3q
  refine own_st (V := T3.setTop (mkF m 11 #[.val (.ref a1), .val (.ref r1), .val (.ref r2), .val (.ref r3), .val (.ref r4)] [(.ref r1), (.ref a1)])) st3 ?_
  obtain ⟨T4, X4, e4, st4⟩ := castY X3 hx hZ2 hown2 (hw _ (List.mem_of_getElem? (i := 49) rfl)) es3 (Ins.self E_r1) (g := (mkF m 11 #[.val (.ref a1), .val (.ref r1), .val (.ref r2), .val (.ref r3), .val (.ref r4)] [(.ref r1), (.ref a1)])) rfl rfl (hb hby d6_11)
  refine own_st (V := T4.setTop (mkF m 14 #[.val (.ref a1), .val (.ref r1), .val (.ref r2), .val (.ref r3), .val (.ref r4)] [(.ref r1), (.ref a1)])) st4 ?_
  obtain ⟨T5, h5, X5, e5, W5, st5⟩ := putF X4 hx hZ2 hown2 (host := "") (Or.inl (hw _ (List.mem_of_getElem? (i := 51) rfl))) Via.refl e4 F_order E_a1 (Or.inr ⟨(hw _ (List.mem_of_getElem? (i := 52) rfl)), rfl, hnm⟩) (hw _ (List.mem_of_getElem? (i := 5) rfl)) (ty := (.object "com/example/rank_keeper/rankkeeper/board/Order")) (by decide) own_narR rfl (g := (mkF m 14 #[.val (.ref a1), .val (.ref r1), .val (.ref r2), .val (.ref r3), .val (.ref r4)] [(.ref r1), (.ref a1)])) rfl rfl (hb hby d6_14)
  have E_a1 := E_a1.wr W5
  have E_r1 := E_r1.wr W5
  have E_r2 := E_r2.wr W5
  have F_operator := F_operator.other W5 (Or.inr (slot_ne (Or.inr (hw _ (List.mem_of_getElem? (i := 57) rfl))) (Or.inr (hw _ (List.mem_of_getElem? (i := 52) rfl))) (by decide) (t := (.object "com/example/rank_keeper/rankkeeper/board/Operator")) (t' := (.object "com/example/rank_keeper/rankkeeper/board/Order")) (by decide) (by decide)))
  have E_r3 := E_r3.wr W5
  have F_ties := F_ties.other W5 (Or.inr (slot_ne (Or.inr (hw _ (List.mem_of_getElem? (i := 62) rfl))) (Or.inr (hw _ (List.mem_of_getElem? (i := 52) rfl))) (by decide) (t := (.object "com/example/rank_keeper/rankkeeper/board/Ties")) (t' := (.object "com/example/rank_keeper/rankkeeper/board/Order")) (by decide) (by decide)))
  have E_r4 := E_r4.wr W5
  have F_period := F_period.other W5 (Or.inr (slot_ne (Or.inr (hw _ (List.mem_of_getElem? (i := 67) rfl))) (Or.inr (hw _ (List.mem_of_getElem? (i := 52) rfl))) (by decide) (t := (.object "com/example/rank_keeper/rankkeeper/board/Period")) (t' := (.object "com/example/rank_keeper/rankkeeper/board/Order")) (by decide) (by decide)))
  have F_order := F_order.same W5
  have K := K.wr W5 (Or.inl (List.mem_of_getElem? (i := 0) rfl))
  have N5 := Fr.snoc X5 N3 g_a1
  have Z0 : n0 ≤ h5.size := Nat.le_trans Z0 (Keep.of_wr W5).1
  have hk2 := Nat.le_trans hk2 (Keep.of_wr W5).1
  refine own_st (V := T5.setTop (mkF m 17 #[.val (.ref a1), .val (.ref r1), .val (.ref r2), .val (.ref r3), .val (.ref r4)] [])) st5 ?_
  refine own_st (V := T5.setTop (mkF m 18 #[.val (.ref a1), .val (.ref r1), .val (.ref r2), .val (.ref r3), .val (.ref r4)] [(.ref a1)])) (fun _ hk => XS.aloadN X5.here hx rfl (hb hby d6_17) rfl rfl hk) ?_
  refine own_st (V := T5.setTop (mkF m 19 #[.val (.ref a1), .val (.ref r1), .val (.ref r2), .val (.ref r3), .val (.ref r4)] [(.ref r2), (.ref a1)])) (fun _ hk => XS.aloadN X5.here hx rfl (hb hby d6_18) rfl rfl hk) ?_
  obtain ⟨a6, T6, h6, k6, X6, e6, E6, hS6, hk6, hZ6, hown6, st6⟩ := ldcS X5 hx hZ2 hown2 (hw _ (List.mem_of_getElem? (i := 53) rfl)) wS e5 hS2 hk2 (g := (mkF m 19 #[.val (.ref a1), .val (.ref r1), .val (.ref r2), .val (.ref r3), .val (.ref r4)] [(.ref r2), (.ref a1)])) rfl (hb hby d6_19) (n := 32) (by decide) (by decide) (by decide) (by decide)
  have E_a1 := E_a1.ext E6
  have E_r1 := E_r1.ext E6
  have F_order := F_order.ext E6
  have E_r2 := E_r2.ext E6
  have F_operator := F_operator.ext E6
  have E_r3 := E_r3.ext E6
  have F_ties := F_ties.ext E6
  have E_r4 := E_r4.ext E6
  have F_period := F_period.ext E6
  have K := K.ext E6
  have Z0 : n0 ≤ h6.size := Nat.le_trans Z0 E6.1
  refine own_st (V := T6.setTop (mkF m 21 #[.val (.ref a1), .val (.ref r1), .val (.ref r2), .val (.ref r3), .val (.ref r4)] [(.ref a6), (.ref r2), (.ref a1)])) st6 ?_
  obtain ⟨_, _, ⟨T7, L7, k7, n7⟩, -, X7, ⟨Lc7, hQ7, l7, y7, z7⟩, st7⟩ := Jvm.LawKit.callS X6 hx (y := (⟨"java/util/Objects", "requireNonNull", "(Ljava/lang/Object;Ljava/lang/String;)Ljava/lang/Object;"⟩ : MethodName)) hown6 (mvT hZ6 (hw _ (List.mem_of_getElem? (i := 45) rfl))) (mvT hZ6 (hw _ (List.mem_of_getElem? (i := 46) rfl))) (mvT hZ6 (hw _ (List.mem_of_getElem? (i := 47) rfl))) (mvT hZ6 (hw _ (List.mem_of_getElem? (i := 48) rfl))) (by decide) (backOf (W := 1) (rm_nonnull l Z a0 hw [] r2 a6 h6 n0 Z0) hZ6 (hw _ (List.mem_of_getElem? (i := 48) rfl)) (hw _ (List.mem_of_getElem? (i := 47) rfl)) (by decide) (by decide)) (g := (mkF m 21 #[.val (.ref a1), .val (.ref r1), .val (.ref r2), .val (.ref r3), .val (.ref r4)] [(.ref a6), (.ref r2), (.ref a1)])) rfl (by rw [hml]; rfl) (argsL := [(.ref r2), (.ref a6)]) (rest := [(.ref a1)]) (lenOf own_pd0 rfl) rfl (by show 2 * 0 + _ ≤ _; exact Nat.le_of_eq rfl) (hb hby d6_21) (fun _ _ => ⟨rfl, e6, (by decide : 4 + 0 ≤ _), (by decide : 60 + 0 ≤ _)⟩)
  dsimp only [Pt.U, Pt.locs, Pt.cells, Pt.slots] at X7 l7 y7 z7 st7 hQ7
  subst l7 y7 z7
  obtain ⟨rfl, N7q, es7⟩ := hQ7
  have N7 := Fr.app N5 N7q
  refine own_st (V := T7.setTop (mkF m 24 #[.val (.ref a1), .val (.ref r1), .val (.ref r2), .val (.ref r3), .val (.ref r4)] [(.ref r2), (.ref a1)])) st7 ?_
  obtain ⟨T8, X8, e8, st8⟩ := castY X7 hx hZ6 hown6 (hw _ (List.mem_of_getElem? (i := 54) rfl)) es7 (Ins.self E_r2) (g := (mkF m 24 #[.val (.ref a1), .val (.ref r1), .val (.ref r2), .val (.ref r3), .val (.ref r4)] [(.ref r2), (.ref a1)])) rfl rfl (hb hby d6_24)
  refine own_st (V := T8.setTop (mkF m 27 #[.val (.ref a1), .val (.ref r1), .val (.ref r2), .val (.ref r3), .val (.ref r4)] [(.ref r2), (.ref a1)])) st8 ?_
  obtain ⟨T9, h9, X9, e9, W9, st9⟩ := putF X8 hx hZ6 hown6 (host := "") (Or.inl (hw _ (List.mem_of_getElem? (i := 56) rfl))) Via.refl e8 F_operator E_a1 (Or.inr ⟨(hw _ (List.mem_of_getElem? (i := 57) rfl)), rfl, hnm⟩) (hw _ (List.mem_of_getElem? (i := 5) rfl)) (ty := (.object "com/example/rank_keeper/rankkeeper/board/Operator")) (by decide) own_narR rfl (g := (mkF m 27 #[.val (.ref a1), .val (.ref r1), .val (.ref r2), .val (.ref r3), .val (.ref r4)] [(.ref r2), (.ref a1)])) rfl rfl (hb hby d6_27)
  have E_a1 := E_a1.wr W9
  have E_r1 := E_r1.wr W9
  have F_order := F_order.other W9 (Or.inr (slot_ne (Or.inr (hw _ (List.mem_of_getElem? (i := 52) rfl))) (Or.inr (hw _ (List.mem_of_getElem? (i := 57) rfl))) (by decide) (t := (.object "com/example/rank_keeper/rankkeeper/board/Order")) (t' := (.object "com/example/rank_keeper/rankkeeper/board/Operator")) (by decide) (by decide)))
  have E_r2 := E_r2.wr W9
  have E_r3 := E_r3.wr W9
  have F_ties := F_ties.other W9 (Or.inr (slot_ne (Or.inr (hw _ (List.mem_of_getElem? (i := 62) rfl))) (Or.inr (hw _ (List.mem_of_getElem? (i := 57) rfl))) (by decide) (t := (.object "com/example/rank_keeper/rankkeeper/board/Ties")) (t' := (.object "com/example/rank_keeper/rankkeeper/board/Operator")) (by decide) (by decide)))
  have E_r4 := E_r4.wr W9
  have F_period := F_period.other W9 (Or.inr (slot_ne (Or.inr (hw _ (List.mem_of_getElem? (i := 67) rfl))) (Or.inr (hw _ (List.mem_of_getElem? (i := 57) rfl))) (by decide) (t := (.object "com/example/rank_keeper/rankkeeper/board/Period")) (t' := (.object "com/example/rank_keeper/rankkeeper/board/Operator")) (by decide) (by decide)))
  have F_operator := F_operator.same W9
  have K := K.wr W9 (Or.inl (List.mem_of_getElem? (i := 0) rfl))
  have N9 := Fr.snoc X9 N7 g_a1
  have Z0 : n0 ≤ h9.size := Nat.le_trans Z0 (Keep.of_wr W9).1
  have hk6 := Nat.le_trans hk6 (Keep.of_wr W9).1
  refine own_st (V := T9.setTop (mkF m 30 #[.val (.ref a1), .val (.ref r1), .val (.ref r2), .val (.ref r3), .val (.ref r4)] [])) st9 ?_
  refine own_st (V := T9.setTop (mkF m 31 #[.val (.ref a1), .val (.ref r1), .val (.ref r2), .val (.ref r3), .val (.ref r4)] [(.ref a1)])) (fun _ hk => XS.aloadN X9.here hx rfl (hb hby d6_30) rfl rfl hk) ?_
  refine own_st (V := T9.setTop (mkF m 32 #[.val (.ref a1), .val (.ref r1), .val (.ref r2), .val (.ref r3), .val (.ref r4)] [(.ref r3), (.ref a1)])) (fun _ hk => XS.aloadN X9.here hx rfl (hb hby d6_31) rfl rfl hk) ?_
  obtain ⟨a10, T10, h10, k10, X10, e10, E10, hS10, hk10, hZ10, hown10, st10⟩ := ldcS X9 hx hZ6 hown6 (hw _ (List.mem_of_getElem? (i := 58) rfl)) wS e9 hS6 hk6 (g := (mkF m 32 #[.val (.ref a1), .val (.ref r1), .val (.ref r2), .val (.ref r3), .val (.ref r4)] [(.ref r3), (.ref a1)])) rfl (hb hby d6_32) (n := 16) (by decide) (by decide) (by decide) (by decide)
  have E_a1 := E_a1.ext E10
  have E_r1 := E_r1.ext E10
  have F_order := F_order.ext E10
  have E_r2 := E_r2.ext E10
  have F_operator := F_operator.ext E10
  have E_r3 := E_r3.ext E10
  have F_ties := F_ties.ext E10
  have E_r4 := E_r4.ext E10
  have F_period := F_period.ext E10
  have K := K.ext E10
  have Z0 : n0 ≤ h10.size := Nat.le_trans Z0 E10.1
  refine own_st (V := T10.setTop (mkF m 34 #[.val (.ref a1), .val (.ref r1), .val (.ref r2), .val (.ref r3), .val (.ref r4)] [(.ref a10), (.ref r3), (.ref a1)])) st10 ?_
  obtain ⟨_, _, ⟨T11, L11, k11, n11⟩, -, X11, ⟨Lc11, hQ11, l11, y11, z11⟩, st11⟩ := Jvm.LawKit.callS X10 hx (y := (⟨"java/util/Objects", "requireNonNull", "(Ljava/lang/Object;Ljava/lang/String;)Ljava/lang/Object;"⟩ : MethodName)) hown10 (mvT hZ10 (hw _ (List.mem_of_getElem? (i := 45) rfl))) (mvT hZ10 (hw _ (List.mem_of_getElem? (i := 46) rfl))) (mvT hZ10 (hw _ (List.mem_of_getElem? (i := 47) rfl))) (mvT hZ10 (hw _ (List.mem_of_getElem? (i := 48) rfl))) (by decide) (backOf (W := 1) (rm_nonnull l Z a0 hw [] r3 a10 h10 n0 Z0) hZ10 (hw _ (List.mem_of_getElem? (i := 48) rfl)) (hw _ (List.mem_of_getElem? (i := 47) rfl)) (by decide) (by decide)) (g := (mkF m 34 #[.val (.ref a1), .val (.ref r1), .val (.ref r2), .val (.ref r3), .val (.ref r4)] [(.ref a10), (.ref r3), (.ref a1)])) rfl (by rw [hml]; rfl) (argsL := [(.ref r3), (.ref a10)]) (rest := [(.ref a1)]) (lenOf own_pd0 rfl) rfl (by show 2 * 0 + _ ≤ _; exact Nat.le_of_eq rfl) (hb hby d6_34) (fun _ _ => ⟨rfl, e10, (by decide : 6 + 0 ≤ _), (by decide : 80 + 0 ≤ _)⟩)
  dsimp only [Pt.U, Pt.locs, Pt.cells, Pt.slots] at X11 l11 y11 z11 st11 hQ11
  subst l11 y11 z11
  obtain ⟨rfl, N11q, es11⟩ := hQ11
  have N11 := Fr.app N9 N11q
  refine own_st (V := T11.setTop (mkF m 37 #[.val (.ref a1), .val (.ref r1), .val (.ref r2), .val (.ref r3), .val (.ref r4)] [(.ref r3), (.ref a1)])) st11 ?_
  obtain ⟨T12, X12, e12, st12⟩ := castY X11 hx hZ10 hown10 (hw _ (List.mem_of_getElem? (i := 59) rfl)) es11 (Ins.self E_r3) (g := (mkF m 37 #[.val (.ref a1), .val (.ref r1), .val (.ref r2), .val (.ref r3), .val (.ref r4)] [(.ref r3), (.ref a1)])) rfl rfl (hb hby d6_37)
  refine own_st (V := T12.setTop (mkF m 40 #[.val (.ref a1), .val (.ref r1), .val (.ref r2), .val (.ref r3), .val (.ref r4)] [(.ref r3), (.ref a1)])) st12 ?_
  obtain ⟨T13, h13, X13, e13, W13, st13⟩ := putF X12 hx hZ10 hown10 (host := "") (Or.inl (hw _ (List.mem_of_getElem? (i := 61) rfl))) Via.refl e12 F_ties E_a1 (Or.inr ⟨(hw _ (List.mem_of_getElem? (i := 62) rfl)), rfl, hnm⟩) (hw _ (List.mem_of_getElem? (i := 5) rfl)) (ty := (.object "com/example/rank_keeper/rankkeeper/board/Ties")) (by decide) own_narR rfl (g := (mkF m 40 #[.val (.ref a1), .val (.ref r1), .val (.ref r2), .val (.ref r3), .val (.ref r4)] [(.ref r3), (.ref a1)])) rfl rfl (hb hby d6_40)
  have E_a1 := E_a1.wr W13
  have E_r1 := E_r1.wr W13
  have F_order := F_order.other W13 (Or.inr (slot_ne (Or.inr (hw _ (List.mem_of_getElem? (i := 52) rfl))) (Or.inr (hw _ (List.mem_of_getElem? (i := 62) rfl))) (by decide) (t := (.object "com/example/rank_keeper/rankkeeper/board/Order")) (t' := (.object "com/example/rank_keeper/rankkeeper/board/Ties")) (by decide) (by decide)))
  have E_r2 := E_r2.wr W13
  have F_operator := F_operator.other W13 (Or.inr (slot_ne (Or.inr (hw _ (List.mem_of_getElem? (i := 57) rfl))) (Or.inr (hw _ (List.mem_of_getElem? (i := 62) rfl))) (by decide) (t := (.object "com/example/rank_keeper/rankkeeper/board/Operator")) (t' := (.object "com/example/rank_keeper/rankkeeper/board/Ties")) (by decide) (by decide)))
  have E_r3 := E_r3.wr W13
  have E_r4 := E_r4.wr W13
  have F_period := F_period.other W13 (Or.inr (slot_ne (Or.inr (hw _ (List.mem_of_getElem? (i := 67) rfl))) (Or.inr (hw _ (List.mem_of_getElem? (i := 62) rfl))) (by decide) (t := (.object "com/example/rank_keeper/rankkeeper/board/Period")) (t' := (.object "com/example/rank_keeper/rankkeeper/board/Ties")) (by decide) (by decide)))
  have F_ties := F_ties.same W13
  have K := K.wr W13 (Or.inl (List.mem_of_getElem? (i := 0) rfl))
  have N13 := Fr.snoc X13 N11 g_a1
  have Z0 : n0 ≤ h13.size := Nat.le_trans Z0 (Keep.of_wr W13).1
  have hk10 := Nat.le_trans hk10 (Keep.of_wr W13).1
  refine own_st (V := T13.setTop (mkF m 43 #[.val (.ref a1), .val (.ref r1), .val (.ref r2), .val (.ref r3), .val (.ref r4)] [])) st13 ?_
  refine own_st (V := T13.setTop (mkF m 44 #[.val (.ref a1), .val (.ref r1), .val (.ref r2), .val (.ref r3), .val (.ref r4)] [(.ref a1)])) (fun _ hk => XS.aloadN X13.here hx rfl (hb hby d6_43) rfl rfl hk) ?_
  refine own_st (V := T13.setTop (mkF m 46 #[.val (.ref a1), .val (.ref r1), .val (.ref r2), .val (.ref r3), .val (.ref r4)] [(.ref r4), (.ref a1)])) (fun _ hk => XS.aload X13.here hx rfl (hb hby d6_44) rfl rfl hk) ?_
  obtain ⟨a14, T14, h14, k14, X14, e14, E14, hS14, hk14, hZ14, hown14, st14⟩ := ldcS X13 hx hZ10 hown10 (hw _ (List.mem_of_getElem? (i := 63) rfl)) wS e13 hS10 hk10 (g := (mkF m 46 #[.val (.ref a1), .val (.ref r1), .val (.ref r2), .val (.ref r3), .val (.ref r4)] [(.ref r4), (.ref a1)])) rfl (hb hby d6_46) (n := 24) (by decide) (by decide) (by decide) (by decide)
  have E_a1 := E_a1.ext E14
  have E_r1 := E_r1.ext E14
  have F_order := F_order.ext E14
  have E_r2 := E_r2.ext E14
  have F_operator := F_operator.ext E14
  have E_r3 := E_r3.ext E14
  have F_ties := F_ties.ext E14
  have E_r4 := E_r4.ext E14
  have F_period := F_period.ext E14
  have K := K.ext E14
  have Z0 : n0 ≤ h14.size := Nat.le_trans Z0 E14.1
  refine own_st (V := T14.setTop (mkF m 48 #[.val (.ref a1), .val (.ref r1), .val (.ref r2), .val (.ref r3), .val (.ref r4)] [(.ref a14), (.ref r4), (.ref a1)])) st14 ?_
  obtain ⟨_, _, ⟨T15, L15, k15, n15⟩, -, X15, ⟨Lc15, hQ15, l15, y15, z15⟩, st15⟩ := Jvm.LawKit.callS X14 hx (y := (⟨"java/util/Objects", "requireNonNull", "(Ljava/lang/Object;Ljava/lang/String;)Ljava/lang/Object;"⟩ : MethodName)) hown14 (mvT hZ14 (hw _ (List.mem_of_getElem? (i := 45) rfl))) (mvT hZ14 (hw _ (List.mem_of_getElem? (i := 46) rfl))) (mvT hZ14 (hw _ (List.mem_of_getElem? (i := 47) rfl))) (mvT hZ14 (hw _ (List.mem_of_getElem? (i := 48) rfl))) (by decide) (backOf (W := 1) (rm_nonnull l Z a0 hw [] r4 a14 h14 n0 Z0) hZ14 (hw _ (List.mem_of_getElem? (i := 48) rfl)) (hw _ (List.mem_of_getElem? (i := 47) rfl)) (by decide) (by decide)) (g := (mkF m 48 #[.val (.ref a1), .val (.ref r1), .val (.ref r2), .val (.ref r3), .val (.ref r4)] [(.ref a14), (.ref r4), (.ref a1)])) rfl (by rw [hml]; rfl) (argsL := [(.ref r4), (.ref a14)]) (rest := [(.ref a1)]) (lenOf own_pd0 rfl) rfl (by show 2 * 0 + _ ≤ _; exact Nat.le_of_eq rfl) (hb hby d6_48) (fun _ _ => ⟨rfl, e14, (by decide : 8 + 0 ≤ _), (by decide : 108 + 0 ≤ _)⟩)
  dsimp only [Pt.U, Pt.locs, Pt.cells, Pt.slots] at X15 l15 y15 z15 st15 hQ15
  subst l15 y15 z15
  obtain ⟨rfl, N15q, es15⟩ := hQ15
  have N15 := Fr.app N13 N15q
  refine own_st (V := T15.setTop (mkF m 51 #[.val (.ref a1), .val (.ref r1), .val (.ref r2), .val (.ref r3), .val (.ref r4)] [(.ref r4), (.ref a1)])) st15 ?_
  obtain ⟨T16, X16, e16, st16⟩ := castY X15 hx hZ14 hown14 (hw _ (List.mem_of_getElem? (i := 64) rfl)) es15 (Ins.self E_r4) (g := (mkF m 51 #[.val (.ref a1), .val (.ref r1), .val (.ref r2), .val (.ref r3), .val (.ref r4)] [(.ref r4), (.ref a1)])) rfl rfl (hb hby d6_51)
  refine own_st (V := T16.setTop (mkF m 54 #[.val (.ref a1), .val (.ref r1), .val (.ref r2), .val (.ref r3), .val (.ref r4)] [(.ref r4), (.ref a1)])) st16 ?_
  obtain ⟨T17, h17, X17, e17, W17, st17⟩ := putF X16 hx hZ14 hown14 (host := "") (Or.inl (hw _ (List.mem_of_getElem? (i := 66) rfl))) Via.refl e16 F_period E_a1 (Or.inr ⟨(hw _ (List.mem_of_getElem? (i := 67) rfl)), rfl, hnm⟩) (hw _ (List.mem_of_getElem? (i := 5) rfl)) (ty := (.object "com/example/rank_keeper/rankkeeper/board/Period")) (by decide) own_narR rfl (g := (mkF m 54 #[.val (.ref a1), .val (.ref r1), .val (.ref r2), .val (.ref r3), .val (.ref r4)] [(.ref r4), (.ref a1)])) rfl rfl (hb hby d6_54)
  have E_a1 := E_a1.wr W17
  have E_r1 := E_r1.wr W17
  have F_order := F_order.other W17 (Or.inr (slot_ne (Or.inr (hw _ (List.mem_of_getElem? (i := 52) rfl))) (Or.inr (hw _ (List.mem_of_getElem? (i := 67) rfl))) (by decide) (t := (.object "com/example/rank_keeper/rankkeeper/board/Order")) (t' := (.object "com/example/rank_keeper/rankkeeper/board/Period")) (by decide) (by decide)))
  have E_r2 := E_r2.wr W17
  have F_operator := F_operator.other W17 (Or.inr (slot_ne (Or.inr (hw _ (List.mem_of_getElem? (i := 57) rfl))) (Or.inr (hw _ (List.mem_of_getElem? (i := 67) rfl))) (by decide) (t := (.object "com/example/rank_keeper/rankkeeper/board/Operator")) (t' := (.object "com/example/rank_keeper/rankkeeper/board/Period")) (by decide) (by decide)))
  have E_r3 := E_r3.wr W17
  have F_ties := F_ties.other W17 (Or.inr (slot_ne (Or.inr (hw _ (List.mem_of_getElem? (i := 62) rfl))) (Or.inr (hw _ (List.mem_of_getElem? (i := 67) rfl))) (by decide) (t := (.object "com/example/rank_keeper/rankkeeper/board/Ties")) (t' := (.object "com/example/rank_keeper/rankkeeper/board/Period")) (by decide) (by decide)))
  have E_r4 := E_r4.wr W17
  have F_period := F_period.same W17
  have K := K.wr W17 (Or.inl (List.mem_of_getElem? (i := 0) rfl))
  have N17 := Fr.snoc X17 N15 g_a1
  have Z0 : n0 ≤ h17.size := Nat.le_trans Z0 (Keep.of_wr W17).1
  have hk14 := Nat.le_trans hk14 (Keep.of_wr W17).1
  refine own_st (V := T17.setTop (mkF m 57 #[.val (.ref a1), .val (.ref r1), .val (.ref r2), .val (.ref r3), .val (.ref r4)] [])) st17 ?_
  exact own_retVW X17 hS14 (by rw [e17]; exact hk14) hx Bd.notSynchronized Bd.returns (hb hby d6_57) (by decide) (by decide) (fun U hU hV hE => hF _ _ ⟨_, _, rfl, (by rw [hU, e17]; exact ⟨rfl, N17, K, E_a1, F_order, F_operator, F_ties, F_period⟩), hE⟩)
def own_W (Z : State) (o0 o1 p0 p1 p2 p3 t0 t1 d0 d1 d2 d3 : Addr) : Prop := own_en Z "com/example/rank_keeper/rankkeeper/board/Order" "DESC" "Lcom/example/rank_keeper/rankkeeper/board/Order;" 0 o0 ∧ own_en Z "com/example/rank_keeper/rankkeeper/board/Order" "ASC" "Lcom/example/rank_keeper/rankkeeper/board/Order;" 1 o1 ∧ own_en Z "com/example/rank_keeper/rankkeeper/board/Operator" "SET" "Lcom/example/rank_keeper/rankkeeper/board/Operator;" 0 p0 ∧ own_en Z "com/example/rank_keeper/rankkeeper/board/Operator" "BEST" "Lcom/example/rank_keeper/rankkeeper/board/Operator;" 1 p1 ∧ own_en Z "com/example/rank_keeper/rankkeeper/board/Operator" "INCREMENT" "Lcom/example/rank_keeper/rankkeeper/board/Operator;" 2 p2 ∧ own_en Z "com/example/rank_keeper/rankkeeper/board/Operator" "DECREMENT" "Lcom/example/rank_keeper/rankkeeper/board/Operator;" 3 p3 ∧ own_en Z "com/example/rank_keeper/rankkeeper/board/Ties" "SHARED" "Lcom/example/rank_keeper/rankkeeper/board/Ties;" 0 t0 ∧ own_en Z "com/example/rank_keeper/rankkeeper/board/Ties" "BY_TIME" "Lcom/example/rank_keeper/rankkeeper/board/Ties;" 1 t1 ∧ own_en Z "com/example/rank_keeper/rankkeeper/board/Period" "NONE" "Lcom/example/rank_keeper/rankkeeper/board/Period;" 0 d0 ∧ own_en Z "com/example/rank_keeper/rankkeeper/board/Period" "DAY" "Lcom/example/rank_keeper/rankkeeper/board/Period;" 1 d1 ∧ own_en Z "com/example/rank_keeper/rankkeeper/board/Period" "WEEK" "Lcom/example/rank_keeper/rankkeeper/board/Period;" 2 d2 ∧ own_en Z "com/example/rank_keeper/rankkeeper/board/Period" "MONTH" "Lcom/example/rank_keeper/rankkeeper/board/Period;" 3 d3
theorem d1_0 : decode method_6_code 0 = .ok (.new 55, 3) := by decide +kernel
theorem d1_3 : decode method_6_code 3 = .ok (.dup, 1) := by decide +kernel
theorem d1_4 : decode method_6_code 4 = .ok (.iload_n 0, 1) := by decide +kernel
theorem d1_5 : decode method_6_code 5 = .ok (.invokestatic 57, 3) := by decide +kernel
theorem own_pd1 : parseMethodDescriptor "(I)Lcom/example/rank_keeper/rankkeeper/board/Order;" = some ⟨[.int], some (.object "com/example/rank_keeper/rankkeeper/board/Order")⟩ := by decide +kernel
theorem d1_8 : decode method_6_code 8 = .ok (.iload_n 0, 1) := by decide +kernel
theorem d1_9 : decode method_6_code 9 = .ok (.invokestatic 63, 3) := by decide +kernel
theorem own_pd2 : parseMethodDescriptor "(I)Lcom/example/rank_keeper/rankkeeper/board/Operator;" = some ⟨[.int], some (.object "com/example/rank_keeper/rankkeeper/board/Operator")⟩ := by decide +kernel
theorem d1_12 : decode method_6_code 12 = .ok (.iload_n 0, 1) := by decide +kernel
theorem d1_13 : decode method_6_code 13 = .ok (.invokestatic 67, 3) := by decide +kernel
theorem own_pd3 : parseMethodDescriptor "(I)Lcom/example/rank_keeper/rankkeeper/board/Ties;" = some ⟨[.int], some (.object "com/example/rank_keeper/rankkeeper/board/Ties")⟩ := by decide +kernel
theorem d1_16 : decode method_6_code 16 = .ok (.iload_n 0, 1) := by decide +kernel
theorem d1_17 : decode method_6_code 17 = .ok (.invokestatic 71, 3) := by decide +kernel
theorem own_pd4 : parseMethodDescriptor "(I)Lcom/example/rank_keeper/rankkeeper/board/Period;" = some ⟨[.int], some (.object "com/example/rank_keeper/rankkeeper/board/Period")⟩ := by decide +kernel
theorem d1_20 : decode method_6_code 20 = .ok (.invokespecial 75, 3) := by decide +kernel
theorem own_pd5 : parseMethodDescriptor "(Lcom/example/rank_keeper/rankkeeper/board/Order;Lcom/example/rank_keeper/rankkeeper/board/Operator;Lcom/example/rank_keeper/rankkeeper/board/Ties;Lcom/example/rank_keeper/rankkeeper/board/Period;)V" = some ⟨[(.object "com/example/rank_keeper/rankkeeper/board/Order"), (.object "com/example/rank_keeper/rankkeeper/board/Operator"), (.object "com/example/rank_keeper/rankkeeper/board/Ties"), (.object "com/example/rank_keeper/rankkeeper/board/Period")], none⟩ := by decide +kernel
theorem d1_23 : decode method_6_code 23 = .ok (.areturn, 1) := by decide +kernel
theorem own_ef_rules (m : MethodId) (x0 : Int32) : entryFrame m #[(.int x0)] 1 = mkF m 0 #[.val (.int x0)] [] := by first | (simp [entryFrame, mkF, argsToLocals, Value.category]; done) | rfl
def Q_rules (Z : State) (cc : Int32) (o0 o1 p0 p1 p2 p3 t0 t1 d0 d1 d2 d3 : Addr) (h0 : Heap) (n0 : Nat) (v : Option Value) (h : Heap) (L : List Loc) : Prop := ∃ r, v = some (.ref r) ∧ Fr n0 L ∧ Keep h0 h [] ∧ h0.size ≤ r ∧ Exa Z h r "com/example/rank_keeper/rankkeeper/board/BoardRules" ∧ Fld Z h r "com/example/rank_keeper/rankkeeper/board/BoardRules" "order" "Lcom/example/rank_keeper/rankkeeper/board/Order;" (.ref (own_s2 o0 o1 (own_k0 cc))) ∧ Fld Z h r "com/example/rank_keeper/rankkeeper/board/BoardRules" "operator" "Lcom/example/rank_keeper/rankkeeper/board/Operator;" (.ref (own_s4 p0 p1 p2 p3 (own_k1 cc))) ∧ Fld Z h r "com/example/rank_keeper/rankkeeper/board/BoardRules" "ties" "Lcom/example/rank_keeper/rankkeeper/board/Ties;" (.ref (own_s2 t0 t1 (own_k2 cc))) ∧ Fld Z h r "com/example/rank_keeper/rankkeeper/board/BoardRules" "period" "Lcom/example/rank_keeper/rankkeeper/board/Period;" (.ref (own_s4 d0 d1 d2 d3 (own_k3 cc)))
set_option maxRecDepth 65536 in
set_option maxHeartbeats 40000000 in
theorem rm_rules (l : Launch) (Z : State) (a0 : Array Value) (hw : ∀ d ∈ tables_1, d.before a0 Z = true) (ws : List Jvm.Cond) (cc : Int32) (o0 o1 p0 p1 p2 p3 t0 t1 d0 d1 d2 d3 : Addr) (h0 : Heap) (n0 : Nat) (Z0 : n0 ≤ h0.size) (O : Old Z n0 h0) (hW : own_W Z o0 o1 p0 p1 p2 p3 t0 t1 d0 d1 d2 d3) :
    MetFree l (⟨"com/example/rank_keeper/rankkeeper/board/BoardRulesEqualsPinLaw", "rules", "(I)Lcom/example/rank_keeper/rankkeeper/board/BoardRules;"⟩ : MethodName) (head1 (Jvm.Cond.code (⟨"com/example/rank_keeper/rankkeeper/board/BoardRulesEqualsPinLaw", "rules", "(I)Lcom/example/rank_keeper/rankkeeper/board/BoardRules;"⟩ : MethodName) method_6_code 1 (some (.object "com/example/rank_keeper/rankkeeper/board/BoardRules")) :: ws) ({ frames := 2, cells := 9, slots := 112, locals := 31 } : Room)) (fun a U => a = #[(.int cc)] ∧ Z.Warmed39 U.vm ∧ U.heap = h0) (fun _ _ _ _ _ => True) (fun _ U o U' => ∃ v L, o = .returned v ∧ Q_rules Z cc o0 o1 p0 p1 p2 p3 t0 t1 d0 d1 d2 d3 h0 n0 v U'.heap L ∧ ReturnedEndW U o U' L ({ frames := 2, cells := 9, slots := 112, locals := 31 } : Room).cells ({ frames := 2, cells := 9, slots := 112, locals := 31 } : Room).slots) := by
  refine MetFree.of_bodySF (plainFor_of_name own_pn_com_example_rank_keeper_rankkeeper_board_BoardRulesEqualsPinLaw) hisR ?_
  intro p e s m args below meth c s₁ Bd hml0 hP hK
  obtain ⟨rfl, hZ, hh⟩ := hP
  have hx := Bd.exec
  have hby := Bd.bytes
  have hml : c.maxLocals = 1 := hml0
  have hown : s.vm.findClass "com/example/rank_keeper/rankkeeper/board/BoardRulesEqualsPinLaw" = some m.cls := findClass_of_methodNamed Bd.named
  have hnm := (name_of_methodNamed Bd.named Bd.method).1
  have X0 : Stand p l e ({ frames := 2, cells := 9, slots := 112, locals := 31 } : Room) (s.setVm s.vm) m #[(.int cc)] below meth c s₁ [] 0 0 := Stand.of_body Bd
  have e0 : s₁.heap = h0 := by rw [← hh, Bd.state]; rfl
  have N0 := Fr.nil n0
  have hZ : Z.Warmed39 (s.setVm s.vm).vm := hZ
  have hown : (s.setVm s.vm).vm.findClass "com/example/rank_keeper/rankkeeper/board/BoardRulesEqualsPinLaw" = some m.cls := hown
  have hS0 := own_since s h0.size
  have hk0 : h0.size ≤ h0.size := Nat.le_refl _
  refine own_start (F0 := fun o U' => ∃ v L, o = .returned v ∧ Q_rules Z cc o0 o1 p0 p1 p2 p3 t0 t1 d0 d1 d2 d3 h0 n0 v U'.heap L ∧ ReturnedEndW s o U' L ({ frames := 2, cells := 9, slots := 112, locals := 31 } : Room).cells ({ frames := 2, cells := 9, slots := 112, locals := 31 } : Room).slots) fun F hF => ?_
  rw [own_ef_rules m cc]
  have K := Keep.refl h0 []
  obtain ⟨n_o0, n_o1, n_p0, n_p1, n_p2, n_p3, n_t0, n_t1, n_d0, n_d1, n_d2, n_d3⟩ := hW
  obtain ⟨T1, h1, X1, e1, E1, A1, D1, -, st1⟩ := newO X0 hx hZ hown (hw _ (List.mem_of_getElem? (i := 4) rfl)) (hw _ (List.mem_of_getElem? (i := 5) rfl)) (hw _ (List.mem_of_getElem? (i := 6) rfl)) e0 (g := (mkF m 0 #[.val (.int cc)] [])) rfl (hb hby d1_0) (by decide) (by decide)
  obtain ⟨b1, g1⟩ : ∃ z, z = h0.size := ⟨_, rfl⟩
  rw [← g1] at A1 D1 st1
  have g_b1 : n0 ≤ b1 := Nat.le_trans Z0 (Nat.le_of_eq g1.symm)
  have sz_b1 : h0.size ≤ b1 := Nat.le_trans K.1 (Nat.le_of_eq g1.symm)
  have O := O.ext E1
  have K := K.ext E1
  have Z0 : n0 ≤ h1.size := Nat.le_trans Z0 E1.1
  have hk0 := Nat.le_trans hk0 E1.1
  have E_b1 := A1
  have F_order_b1 : Fld Z h1 b1 "com/example/rank_keeper/rankkeeper/board/BoardRules" "order" "Lcom/example/rank_keeper/rankkeeper/board/Order;" .null := D1 (Or.inr (hw _ (List.mem_of_getElem? (i := 52) rfl))) (ty := (.object "com/example/rank_keeper/rankkeeper/board/Order")) (by decide)
  have F_operator_b1 : Fld Z h1 b1 "com/example/rank_keeper/rankkeeper/board/BoardRules" "operator" "Lcom/example/rank_keeper/rankkeeper/board/Operator;" .null := D1 (Or.inr (hw _ (List.mem_of_getElem? (i := 57) rfl))) (ty := (.object "com/example/rank_keeper/rankkeeper/board/Operator")) (by decide)
  have F_ties_b1 : Fld Z h1 b1 "com/example/rank_keeper/rankkeeper/board/BoardRules" "ties" "Lcom/example/rank_keeper/rankkeeper/board/Ties;" .null := D1 (Or.inr (hw _ (List.mem_of_getElem? (i := 62) rfl))) (ty := (.object "com/example/rank_keeper/rankkeeper/board/Ties")) (by decide)
  have F_period_b1 : Fld Z h1 b1 "com/example/rank_keeper/rankkeeper/board/BoardRules" "period" "Lcom/example/rank_keeper/rankkeeper/board/Period;" .null := D1 (Or.inr (hw _ (List.mem_of_getElem? (i := 67) rfl))) (ty := (.object "com/example/rank_keeper/rankkeeper/board/Period")) (by decide)
  refine own_st (V := T1.setTop (mkF m 3 #[.val (.int cc)] [(.ref b1)])) st1 ?_
  refine own_st (V := T1.setTop (mkF m 4 #[.val (.int cc)] [(.ref b1), (.ref b1)])) (fun _ hk => XS.dup X1.here hx rfl (hb hby d1_3) rfl rfl hk) ?_
  refine own_st (V := T1.setTop (mkF m 5 #[.val (.int cc)] [(.int cc), (.ref b1), (.ref b1)])) (fun _ hk => XS.iloadN X1.here hx rfl (hb hby d1_4) rfl  hk) ?_
  obtain ⟨_, _, ⟨T2, L2, k2, n2⟩, -, X2, ⟨Lc2, hQ2, l2, y2, z2⟩, st2⟩ := Jvm.LawKit.callS X1 hx (y := (⟨"com/example/rank_keeper/rankkeeper/board/BoardRulesEqualsPinLaw", "order", "(I)Lcom/example/rank_keeper/rankkeeper/board/Order;"⟩ : MethodName)) hown (mvT hZ (hw _ (List.mem_of_getElem? (i := 7) rfl))) (mvT hZ (hw _ (List.mem_of_getElem? (i := 8) rfl))) (mvT hZ (hw _ (List.mem_of_getElem? (i := 2) rfl))) (mvT hZ (hw _ (List.mem_of_getElem? (i := 9) rfl))) (by decide) (backOf (W := 2) (rm_order l Z a0 hw [] cc o0 o1 h1 n0 Z0 O n_o0.1 n_o1.1) hZ (hw _ (List.mem_of_getElem? (i := 9) rfl)) (hw _ (List.mem_of_getElem? (i := 2) rfl)) (by decide) (by decide)) (g := (mkF m 5 #[.val (.int cc)] [(.int cc), (.ref b1), (.ref b1)])) rfl (by rw [hml]; rfl) (argsL := [(.int cc)]) (rest := [(.ref b1), (.ref b1)]) (lenOf own_pd1 rfl) rfl (by show 2 * 0 + _ ≤ _; exact Nat.le_of_eq rfl) (hb hby d1_5) (fun _ _ => ⟨rfl, e1, (by decide : 1 + 0 ≤ _), (by decide : 4 + 0 ≤ _)⟩)
  dsimp only [Pt.U, Pt.locs, Pt.cells, Pt.slots] at X2 l2 y2 z2 st2 hQ2
  subst l2 y2 z2
  obtain ⟨rfl, N2q, es2⟩ := hQ2
  have N2 := Fr.app N0 N2q
  refine own_st (V := T2.setTop (mkF m 8 #[.val (.int cc)] [(.ref (own_s2 o0 o1 (own_k0 cc))), (.ref b1), (.ref b1)])) st2 ?_
  refine own_st (V := T2.setTop (mkF m 9 #[.val (.int cc)] [(.int cc), (.ref (own_s2 o0 o1 (own_k0 cc))), (.ref b1), (.ref b1)])) (fun _ hk => XS.iloadN X2.here hx rfl (hb hby d1_8) rfl  hk) ?_
  obtain ⟨_, _, ⟨T3, L3, k3, n3⟩, -, X3, ⟨Lc3, hQ3, l3, y3, z3⟩, st3⟩ := Jvm.LawKit.callS X2 hx (y := (⟨"com/example/rank_keeper/rankkeeper/board/BoardRulesEqualsPinLaw", "operator", "(I)Lcom/example/rank_keeper/rankkeeper/board/Operator;"⟩ : MethodName)) hown (mvT hZ (hw _ (List.mem_of_getElem? (i := 13) rfl))) (mvT hZ (hw _ (List.mem_of_getElem? (i := 14) rfl))) (mvT hZ (hw _ (List.mem_of_getElem? (i := 2) rfl))) (mvT hZ (hw _ (List.mem_of_getElem? (i := 15) rfl))) (by decide) (backOf (W := 3) (rm_operator l Z a0 hw [] cc p0 p1 p2 p3 h1 n0 Z0 O n_p0.1 n_p1.1 n_p2.1 n_p3.1) hZ (hw _ (List.mem_of_getElem? (i := 15) rfl)) (hw _ (List.mem_of_getElem? (i := 2) rfl)) (by decide) (by decide)) (g := (mkF m 9 #[.val (.int cc)] [(.int cc), (.ref (own_s2 o0 o1 (own_k0 cc))), (.ref b1), (.ref b1)])) rfl (by rw [hml]; rfl) (argsL := [(.int cc)]) (rest := [(.ref (own_s2 o0 o1 (own_k0 cc))), (.ref b1), (.ref b1)]) (lenOf own_pd2 rfl) rfl (by show 2 * 0 + _ ≤ _; exact Nat.le_of_eq rfl) (hb hby d1_9) (fun _ _ => ⟨rfl, es2, (by decide : 1 + 0 ≤ _), (by decide : 4 + 0 ≤ _)⟩)
  dsimp only [Pt.U, Pt.locs, Pt.cells, Pt.slots] at X3 l3 y3 z3 st3 hQ3
  subst l3 y3 z3
  obtain ⟨rfl, N3q, es3⟩ := hQ3
  have N3 := Fr.app N2 N3q
  refine own_st (V := T3.setTop (mkF m 12 #[.val (.int cc)] [(.ref (own_s4 p0 p1 p2 p3 (own_k1 cc))), (.ref (own_s2 o0 o1 (own_k0 cc))), (.ref b1), (.ref b1)])) st3 ?_
  refine own_st (V := T3.setTop (mkF m 13 #[.val (.int cc)] [(.int cc), (.ref (own_s4 p0 p1 p2 p3 (own_k1 cc))), (.ref (own_s2 o0 o1 (own_k0 cc))), (.ref b1), (.ref b1)])) (fun _ hk => XS.iloadN X3.here hx rfl (hb hby d1_12) rfl  hk) ?_
  obtain ⟨_, _, ⟨T4, L4, k4, n4⟩, -, X4, ⟨Lc4, hQ4, l4, y4, z4⟩, st4⟩ := Jvm.LawKit.callS X3 hx (y := (⟨"com/example/rank_keeper/rankkeeper/board/BoardRulesEqualsPinLaw", "ties", "(I)Lcom/example/rank_keeper/rankkeeper/board/Ties;"⟩ : MethodName)) hown (mvT hZ (hw _ (List.mem_of_getElem? (i := 19) rfl))) (mvT hZ (hw _ (List.mem_of_getElem? (i := 20) rfl))) (mvT hZ (hw _ (List.mem_of_getElem? (i := 2) rfl))) (mvT hZ (hw _ (List.mem_of_getElem? (i := 21) rfl))) (by decide) (backOf (W := 4) (rm_ties l Z a0 hw [] cc t0 t1 h1 n0 Z0 O n_t0.1 n_t1.1) hZ (hw _ (List.mem_of_getElem? (i := 21) rfl)) (hw _ (List.mem_of_getElem? (i := 2) rfl)) (by decide) (by decide)) (g := (mkF m 13 #[.val (.int cc)] [(.int cc), (.ref (own_s4 p0 p1 p2 p3 (own_k1 cc))), (.ref (own_s2 o0 o1 (own_k0 cc))), (.ref b1), (.ref b1)])) rfl (by rw [hml]; rfl) (argsL := [(.int cc)]) (rest := [(.ref (own_s4 p0 p1 p2 p3 (own_k1 cc))), (.ref (own_s2 o0 o1 (own_k0 cc))), (.ref b1), (.ref b1)]) (lenOf own_pd3 rfl) rfl (by show 2 * 0 + _ ≤ _; exact Nat.le_of_eq rfl) (hb hby d1_13) (fun _ _ => ⟨rfl, es3, (by decide : 1 + 0 ≤ _), (by decide : 4 + 0 ≤ _)⟩)
  dsimp only [Pt.U, Pt.locs, Pt.cells, Pt.slots] at X4 l4 y4 z4 st4 hQ4
  subst l4 y4 z4
  obtain ⟨rfl, N4q, es4⟩ := hQ4
  have N4 := Fr.app N3 N4q
  refine own_st (V := T4.setTop (mkF m 16 #[.val (.int cc)] [(.ref (own_s2 t0 t1 (own_k2 cc))), (.ref (own_s4 p0 p1 p2 p3 (own_k1 cc))), (.ref (own_s2 o0 o1 (own_k0 cc))), (.ref b1), (.ref b1)])) st4 ?_
  refine own_st (V := T4.setTop (mkF m 17 #[.val (.int cc)] [(.int cc), (.ref (own_s2 t0 t1 (own_k2 cc))), (.ref (own_s4 p0 p1 p2 p3 (own_k1 cc))), (.ref (own_s2 o0 o1 (own_k0 cc))), (.ref b1), (.ref b1)])) (fun _ hk => XS.iloadN X4.here hx rfl (hb hby d1_16) rfl  hk) ?_
  obtain ⟨_, _, ⟨T5, L5, k5, n5⟩, -, X5, ⟨Lc5, hQ5, l5, y5, z5⟩, st5⟩ := Jvm.LawKit.callS X4 hx (y := (⟨"com/example/rank_keeper/rankkeeper/board/BoardRulesEqualsPinLaw", "period", "(I)Lcom/example/rank_keeper/rankkeeper/board/Period;"⟩ : MethodName)) hown (mvT hZ (hw _ (List.mem_of_getElem? (i := 25) rfl))) (mvT hZ (hw _ (List.mem_of_getElem? (i := 26) rfl))) (mvT hZ (hw _ (List.mem_of_getElem? (i := 2) rfl))) (mvT hZ (hw _ (List.mem_of_getElem? (i := 27) rfl))) (by decide) (backOf (W := 5) (rm_period l Z a0 hw [] cc d0 d1 d2 d3 h1 n0 Z0 O n_d0.1 n_d1.1 n_d2.1 n_d3.1) hZ (hw _ (List.mem_of_getElem? (i := 27) rfl)) (hw _ (List.mem_of_getElem? (i := 2) rfl)) (by decide) (by decide)) (g := (mkF m 17 #[.val (.int cc)] [(.int cc), (.ref (own_s2 t0 t1 (own_k2 cc))), (.ref (own_s4 p0 p1 p2 p3 (own_k1 cc))), (.ref (own_s2 o0 o1 (own_k0 cc))), (.ref b1), (.ref b1)])) rfl (by rw [hml]; rfl) (argsL := [(.int cc)]) (rest := [(.ref (own_s2 t0 t1 (own_k2 cc))), (.ref (own_s4 p0 p1 p2 p3 (own_k1 cc))), (.ref (own_s2 o0 o1 (own_k0 cc))), (.ref b1), (.ref b1)]) (lenOf own_pd4 rfl) rfl (by show 2 * 0 + _ ≤ _; exact Nat.le_of_eq rfl) (hb hby d1_17) (fun _ _ => ⟨rfl, es4, (by decide : 1 + 0 ≤ _), (by decide : 4 + 0 ≤ _)⟩)
  dsimp only [Pt.U, Pt.locs, Pt.cells, Pt.slots] at X5 l5 y5 z5 st5 hQ5
  subst l5 y5 z5
  obtain ⟨rfl, N5q, es5⟩ := hQ5
  have N5 := Fr.app N4 N5q
  refine own_st (V := T5.setTop (mkF m 20 #[.val (.int cc)] [(.ref (own_s4 d0 d1 d2 d3 (own_k3 cc))), (.ref (own_s2 t0 t1 (own_k2 cc))), (.ref (own_s4 p0 p1 p2 p3 (own_k1 cc))), (.ref (own_s2 o0 o1 (own_k0 cc))), (.ref b1), (.ref b1)])) st5 ?_
  have E_q1 := own_s2_exa (n_o0.2.1.ext O.2) (n_o1.2.1.ext O.2) (own_k0 cc)
  have E_q2 := own_s4_exa (n_p0.2.1.ext O.2) (n_p1.2.1.ext O.2) (n_p2.2.1.ext O.2) (n_p3.2.1.ext O.2) (own_k1 cc)
  have E_q3 := own_s2_exa (n_t0.2.1.ext O.2) (n_t1.2.1.ext O.2) (own_k2 cc)
  have E_q4 := own_s4_exa (n_d0.2.1.ext O.2) (n_d1.2.1.ext O.2) (n_d2.2.1.ext O.2) (n_d3.2.1.ext O.2) (own_k3 cc)
  obtain ⟨_, _, ⟨T6, L6, k6, n6⟩, -, X6, hSn6, hgr6, ⟨Lc6, hQ6, l6, y6, z6⟩, st6⟩ := X5.specialBackS hx (y := (⟨"com/example/rank_keeper/rankkeeper/board/BoardRules", "<init>", "(Lcom/example/rank_keeper/rankkeeper/board/Order;Lcom/example/rank_keeper/rankkeeper/board/Operator;Lcom/example/rank_keeper/rankkeeper/board/Ties;Lcom/example/rank_keeper/rankkeeper/board/Period;)V"⟩ : MethodName)) rfl hown (mvT hZ (hw _ (List.mem_of_getElem? (i := 31) rfl))) (mvT hZ (hw _ (List.mem_of_getElem? (i := 32) rfl))) (mvT hZ (hw _ (List.mem_of_getElem? (i := 33) rfl))) (by decide) (backOfS (W := 1) (rm_init l Z a0 hw [] b1 (own_s2 o0 o1 (own_k0 cc)) (own_s4 p0 p1 p2 p3 (own_k1 cc)) (own_s2 t0 t1 (own_k2 cc)) (own_s4 d0 d1 d2 d3 (own_k3 cc)) _ _ _ _ h1 n0 Z0 E_b1 E_q1 E_q2 E_q3 E_q4 F_order_b1 F_operator_b1 F_ties_b1 F_period_b1 g_b1) hZ (hw _ (List.mem_of_getElem? (i := 33) rfl)) (hw _ (List.mem_of_getElem? (i := 6) rfl)) (by decide) (by decide)) (g := (mkF m 20 #[.val (.int cc)] [(.ref (own_s4 d0 d1 d2 d3 (own_k3 cc))), (.ref (own_s2 t0 t1 (own_k2 cc))), (.ref (own_s4 p0 p1 p2 p3 (own_k1 cc))), (.ref (own_s2 o0 o1 (own_k0 cc))), (.ref b1), (.ref b1)])) rfl (by rw [hml]; rfl) (Steps.refl _) (a := b1) (argsL := [(.ref (own_s2 o0 o1 (own_k0 cc))), (.ref (own_s4 p0 p1 p2 p3 (own_k1 cc))), (.ref (own_s2 t0 t1 (own_k2 cc))), (.ref (own_s4 d0 d1 d2 d3 (own_k3 cc)))]) (rest := [(.ref b1)]) (lenOf own_pd5 rfl) rfl (by show 2 * 0 + _ ≤ _; exact Nat.le_of_eq rfl) (hb hby d1_20) (fun _ _ => ⟨rfl, es5, (by decide : 1 + 8 ≤ _), (by decide : 4 + 108 ≤ _)⟩)
  dsimp only [Pt.U, Pt.locs, Pt.cells, Pt.slots] at X6 l6 y6 z6 st6 hQ6 hSn6 hgr6
  subst l6 y6 z6
  obtain ⟨rfl, N6q, Kc, Ec, Fc1, Fc2, Fc3, Fc4⟩ := hQ6
  have N6 := Fr.app N5 N6q
  obtain ⟨Xr6, hSr6, hZr6, hownr6⟩ := rebS hS0 (by rw [es5]; exact hk0 : _ ≤ T5.heap.size) X6 hSn6 hgr6 hZ hown
  refine own_tr (V := T6.setTop (mkF m 23 #[.val (.int cc)] [(.ref b1)])) st6 ?_
  have hkr6 : T6.heap.size ≤ T6.heap.size := Nat.le_refl _
  have E_b1 := E_b1.keep Kc
  have Z0 : n0 ≤ T6.heap.size := Nat.le_trans Z0 Kc.1
  have O := O.keep Kc (allS g_b1 all0)
  have K := K.trans Kc (allS (Or.inr sz_b1) all0)
  exact own_retAW Xr6 hSr6 hkr6 hx Bd.notSynchronized Bd.returns rfl rfl (hb hby d1_23) (by decide) (by decide) (fun U hU hV hE => hF _ _ ⟨_, _, rfl, (by rw [hU]; exact ⟨_, rfl, N6, K, sz_b1, Ec, Fc1, Fc2, Fc3, Fc4⟩), hE⟩)
theorem d9_0 : decode prog_6_method_10_code 0 = .ok (.aload_n 1, 1) := by decide +kernel
theorem d9_1 : decode prog_6_method_10_code 1 = .ok (.instanceof 18, 3) := by decide +kernel
theorem d9_4 : decode prog_6_method_10_code 4 = .ok (.ifCond .eq 56, 3) := by decide +kernel
theorem d9_7 : decode prog_6_method_10_code 7 = .ok (.aload_n 1, 1) := by decide +kernel
theorem d9_8 : decode prog_6_method_10_code 8 = .ok (.checkcast 18, 3) := by decide +kernel
theorem d9_11 : decode prog_6_method_10_code 11 = .ok (.astore_n 2, 1) := by decide +kernel
theorem d9_12 : decode prog_6_method_10_code 12 = .ok (.aload_n 0, 1) := by decide +kernel
theorem d9_13 : decode prog_6_method_10_code 13 = .ok (.getfield 17, 3) := by decide +kernel
theorem d9_16 : decode prog_6_method_10_code 16 = .ok (.aload_n 2, 1) := by decide +kernel
theorem d9_17 : decode prog_6_method_10_code 17 = .ok (.getfield 17, 3) := by decide +kernel
theorem d9_20 : decode prog_6_method_10_code 20 = .ok (.if_acmp .ne 40, 3) := by decide +kernel
theorem d9_23 : decode prog_6_method_10_code 23 = .ok (.aload_n 0, 1) := by decide +kernel
theorem d9_24 : decode prog_6_method_10_code 24 = .ok (.getfield 26, 3) := by decide +kernel
theorem d9_27 : decode prog_6_method_10_code 27 = .ok (.aload_n 2, 1) := by decide +kernel
theorem d9_28 : decode prog_6_method_10_code 28 = .ok (.getfield 26, 3) := by decide +kernel
theorem d9_31 : decode prog_6_method_10_code 31 = .ok (.if_acmp .ne 29, 3) := by decide +kernel
theorem d9_34 : decode prog_6_method_10_code 34 = .ok (.aload_n 0, 1) := by decide +kernel
theorem d9_35 : decode prog_6_method_10_code 35 = .ok (.getfield 33, 3) := by decide +kernel
theorem d9_38 : decode prog_6_method_10_code 38 = .ok (.aload_n 2, 1) := by decide +kernel
theorem d9_39 : decode prog_6_method_10_code 39 = .ok (.getfield 33, 3) := by decide +kernel
theorem d9_42 : decode prog_6_method_10_code 42 = .ok (.if_acmp .ne 18, 3) := by decide +kernel
theorem d9_45 : decode prog_6_method_10_code 45 = .ok (.aload_n 0, 1) := by decide +kernel
theorem d9_46 : decode prog_6_method_10_code 46 = .ok (.getfield 40, 3) := by decide +kernel
theorem d9_49 : decode prog_6_method_10_code 49 = .ok (.aload_n 2, 1) := by decide +kernel
theorem d9_50 : decode prog_6_method_10_code 50 = .ok (.getfield 40, 3) := by decide +kernel
theorem d9_53 : decode prog_6_method_10_code 53 = .ok (.if_acmp .ne 7, 3) := by decide +kernel
theorem d9_56 : decode prog_6_method_10_code 56 = .ok (.iconst 1, 1) := by decide +kernel
theorem d9_57 : decode prog_6_method_10_code 57 = .ok (.goto 4, 3) := by decide +kernel
theorem d9_61 : decode prog_6_method_10_code 61 = .ok (.ireturn, 1) := by decide +kernel
theorem d9_60 : decode prog_6_method_10_code 60 = .ok (.iconst 0, 1) := by decide +kernel
theorem own_ef_eqO (m : MethodId) (x0 : Addr) (x1 : Addr) : entryFrame m #[(.ref x0), (.ref x1)] 3 = mkF m 0 #[.val (.ref x0), .val (.ref x1), .unset] [] := by first | (simp [entryFrame, mkF, argsToLocals, Value.category]; done) | rfl
def Q_eqO (Z : State) (a1 a2 : Addr) (x1 x2 x3 x4 y1 y2 y3 y4 : Addr) (h0 : Heap) (n0 : Nat) (v : Option Value) (h : Heap) (L : List Loc) : Prop := v = some (.int (own_b (x1 = y1 ∧ x2 = y2 ∧ x3 = y3 ∧ x4 = y4))) ∧ Fr n0 L ∧ h = h0
set_option maxRecDepth 65536 in
set_option maxHeartbeats 40000000 in
theorem rm_eqO (l : Launch) (Z : State) (a0 : Array Value) (hw : ∀ d ∈ tables_1, d.before a0 Z = true) (ws : List Jvm.Cond) (a1 a2 : Addr) (x1 x2 x3 x4 y1 y2 y3 y4 : Addr) (h0 : Heap) (n0 : Nat) (Z0 : n0 ≤ h0.size) (E_a2 : Exa Z h0 a2 "com/example/rank_keeper/rankkeeper/board/BoardRules") (Fx1 : Fld Z h0 a1 "com/example/rank_keeper/rankkeeper/board/BoardRules" "order" "Lcom/example/rank_keeper/rankkeeper/board/Order;" (.ref x1)) (Fx2 : Fld Z h0 a1 "com/example/rank_keeper/rankkeeper/board/BoardRules" "operator" "Lcom/example/rank_keeper/rankkeeper/board/Operator;" (.ref x2)) (Fx3 : Fld Z h0 a1 "com/example/rank_keeper/rankkeeper/board/BoardRules" "ties" "Lcom/example/rank_keeper/rankkeeper/board/Ties;" (.ref x3)) (Fx4 : Fld Z h0 a1 "com/example/rank_keeper/rankkeeper/board/BoardRules" "period" "Lcom/example/rank_keeper/rankkeeper/board/Period;" (.ref x4)) (Fy1 : Fld Z h0 a2 "com/example/rank_keeper/rankkeeper/board/BoardRules" "order" "Lcom/example/rank_keeper/rankkeeper/board/Order;" (.ref y1)) (Fy2 : Fld Z h0 a2 "com/example/rank_keeper/rankkeeper/board/BoardRules" "operator" "Lcom/example/rank_keeper/rankkeeper/board/Operator;" (.ref y2)) (Fy3 : Fld Z h0 a2 "com/example/rank_keeper/rankkeeper/board/BoardRules" "ties" "Lcom/example/rank_keeper/rankkeeper/board/Ties;" (.ref y3)) (Fy4 : Fld Z h0 a2 "com/example/rank_keeper/rankkeeper/board/BoardRules" "period" "Lcom/example/rank_keeper/rankkeeper/board/Period;" (.ref y4)) :
    MetFree l (⟨"com/example/rank_keeper/rankkeeper/board/BoardRules", "equals", "(Ljava/lang/Object;)Z"⟩ : MethodName) (head1 (Jvm.Cond.code (⟨"com/example/rank_keeper/rankkeeper/board/BoardRules", "equals", "(Ljava/lang/Object;)Z"⟩ : MethodName) prog_6_method_10_code 3 (some .boolean) :: ws) ({ frames := 0, cells := 0, slots := 0, locals := 0 } : Room)) (fun a U => a = #[(.ref a1), (.ref a2)] ∧ Z.Warmed39 U.vm ∧ U.heap = h0) (fun _ _ _ _ _ => True) (fun _ U o U' => ∃ v L, o = .returned v ∧ Q_eqO Z a1 a2 x1 x2 x3 x4 y1 y2 y3 y4 h0 n0 v U'.heap L ∧ FrameEnd U o U' L ({ frames := 0, cells := 0, slots := 0, locals := 0 } : Room).cells ({ frames := 0, cells := 0, slots := 0, locals := 0 } : Room).slots) := by
  refine MetFree.of_bodySF (plainFor_of_name own_pn_com_example_rank_keeper_rankkeeper_board_BoardRules) hisR ?_
  intro p e s m args below meth c s₁ Bd hml0 hP hK
  obtain ⟨rfl, hZ, hh⟩ := hP
  have hx := Bd.exec
  have hby := Bd.bytes
  have hml : c.maxLocals = 3 := hml0
  have hown : s.vm.findClass "com/example/rank_keeper/rankkeeper/board/BoardRules" = some m.cls := findClass_of_methodNamed Bd.named
  have hnm := (name_of_methodNamed Bd.named Bd.method).1
  have X0 : Stand p l e ({ frames := 0, cells := 0, slots := 0, locals := 0 } : Room) s m #[(.ref a1), (.ref a2)] below meth c s₁ [] 0 0 := Stand.of_body Bd
  have e0 : s₁.heap = h0 := by rw [← hh, Bd.state]; rfl
  have N0 := Fr.nil n0
  refine own_start (F0 := fun o U' => ∃ v L, o = .returned v ∧ Q_eqO Z a1 a2 x1 x2 x3 x4 y1 y2 y3 y4 h0 n0 v U'.heap L ∧ FrameEnd s o U' L ({ frames := 0, cells := 0, slots := 0, locals := 0 } : Room).cells ({ frames := 0, cells := 0, slots := 0, locals := 0 } : Room).slots) fun F hF => ?_
  rw [own_ef_eqO m a1 a2]
  refine own_st (V := s₁.setTop (mkF m 1 #[.val (.ref a1), .val (.ref a2), .unset] [(.ref a2)])) (fun _ hk => XS.aloadN X0.here hx rfl (hb hby d9_0) rfl rfl hk) ?_
  obtain ⟨T1, X1, e1, st1⟩ := instY X0 hx hZ hown (hw _ (List.mem_of_getElem? (i := 73) rfl)) e0 (Ins.self E_a2) (g := (mkF m 1 #[.val (.ref a1), .val (.ref a2), .unset] [(.ref a2)])) rfl rfl (hb hby d9_1)
  refine own_st (V := T1.setTop (mkF m 4 #[.val (.ref a1), .val (.ref a2), .unset] [(.int (1 : Int32))])) st1 ?_
  refine own_st (V := T1.setTop (mkF m 7 #[.val (.ref a1), .val (.ref a2), .unset] [])) (fun _ hk => XS.ifNo X1.here hx rfl (hb hby d9_4) rfl ((if0 _ _).trans (feq (show ¬ ((1 : Int32) = (0 : Int32)) from (by decide))).1) hk) ?_
  refine own_st (V := T1.setTop (mkF m 8 #[.val (.ref a1), .val (.ref a2), .unset] [(.ref a2)])) (fun _ hk => XS.aloadN X1.here hx rfl (hb hby d9_7) rfl rfl hk) ?_
  obtain ⟨T2, X2, e2, st2⟩ := castY X1 hx hZ hown (hw _ (List.mem_of_getElem? (i := 73) rfl)) e1 (Ins.self E_a2) (g := (mkF m 8 #[.val (.ref a1), .val (.ref a2), .unset] [(.ref a2)])) rfl rfl (hb hby d9_8)
  refine own_st (V := T2.setTop (mkF m 11 #[.val (.ref a1), .val (.ref a2), .unset] [(.ref a2)])) st2 ?_
  refine own_st (V := T2.setTop (mkF m 12 #[.val (.ref a1), .val (.ref a2), .val (.ref a2)] [])) (fun _ hk => XS.astoreN X2.here hx rfl (hb hby d9_11) rfl rfl (l' := #[.val (.ref a1), .val (.ref a2), .val (.ref a2)]) rfl hk) ?_
  refine own_st (V := T2.setTop (mkF m 13 #[.val (.ref a1), .val (.ref a2), .val (.ref a2)] [(.ref a1)])) (fun _ hk => XS.aloadN X2.here hx rfl (hb hby d9_12) rfl rfl hk) ?_
  obtain ⟨T3, X3, e3, st3⟩ := getF X2 hx hZ hown (host := "") (Or.inl (hw _ (List.mem_of_getElem? (i := 51) rfl))) Via.refl e2 Fx1 (g := (mkF m 13 #[.val (.ref a1), .val (.ref a2), .val (.ref a2)] [(.ref a1)])) rfl rfl (hb hby d9_13)
  refine own_st (V := T3.setTop (mkF m 16 #[.val (.ref a1), .val (.ref a2), .val (.ref a2)] [(.ref x1)])) st3 ?_
  refine own_st (V := T3.setTop (mkF m 17 #[.val (.ref a1), .val (.ref a2), .val (.ref a2)] [(.ref a2), (.ref x1)])) (fun _ hk => XS.aloadN X3.here hx rfl (hb hby d9_16) rfl rfl hk) ?_
  obtain ⟨T4, X4, e4, st4⟩ := getF X3 hx hZ hown (host := "") (Or.inl (hw _ (List.mem_of_getElem? (i := 51) rfl))) Via.refl e3 Fy1 (g := (mkF m 17 #[.val (.ref a1), .val (.ref a2), .val (.ref a2)] [(.ref a2), (.ref x1)])) rfl rfl (hb hby d9_17)
  refine own_st (V := T4.setTop (mkF m 20 #[.val (.ref a1), .val (.ref a2), .val (.ref a2)] [(.ref y1), (.ref x1)])) st4 ?_
  by_cases ha1 : x1 = y1
  · skip
    refine own_st (V := T4.setTop (mkF m 23 #[.val (.ref a1), .val (.ref a2), .val (.ref a2)] [])) (fun _ hk => Jvm.RoadKit.acmp (g := (mkF m 20 #[.val (.ref a1), .val (.ref a2), .val (.ref a2)] [(.ref y1), (.ref x1)])) X4 hx rfl rfl rfl (pc0 := 20) (pc' := 23) (same := true) rfl (hb hby d9_20) rfl (decide_eq_true (congrArg Value.ref ha1)) (by decide) (by decide) hk) ?_
    refine own_st (V := T4.setTop (mkF m 24 #[.val (.ref a1), .val (.ref a2), .val (.ref a2)] [(.ref a1)])) (fun _ hk => XS.aloadN X4.here hx rfl (hb hby d9_23) rfl rfl hk) ?_
    obtain ⟨T5, X5, e5, st5⟩ := getF X4 hx hZ hown (host := "") (Or.inl (hw _ (List.mem_of_getElem? (i := 56) rfl))) Via.refl e4 Fx2 (g := (mkF m 24 #[.val (.ref a1), .val (.ref a2), .val (.ref a2)] [(.ref a1)])) rfl rfl (hb hby d9_24)
    refine own_st (V := T5.setTop (mkF m 27 #[.val (.ref a1), .val (.ref a2), .val (.ref a2)] [(.ref x2)])) st5 ?_
    refine own_st (V := T5.setTop (mkF m 28 #[.val (.ref a1), .val (.ref a2), .val (.ref a2)] [(.ref a2), (.ref x2)])) (fun _ hk => XS.aloadN X5.here hx rfl (hb hby d9_27) rfl rfl hk) ?_
    obtain ⟨T6, X6, e6, st6⟩ := getF X5 hx hZ hown (host := "") (Or.inl (hw _ (List.mem_of_getElem? (i := 56) rfl))) Via.refl e5 Fy2 (g := (mkF m 28 #[.val (.ref a1), .val (.ref a2), .val (.ref a2)] [(.ref a2), (.ref x2)])) rfl rfl (hb hby d9_28)
    refine own_st (V := T6.setTop (mkF m 31 #[.val (.ref a1), .val (.ref a2), .val (.ref a2)] [(.ref y2), (.ref x2)])) st6 ?_
    by_cases ha2 : x2 = y2
    · skip
      refine own_st (V := T6.setTop (mkF m 34 #[.val (.ref a1), .val (.ref a2), .val (.ref a2)] [])) (fun _ hk => Jvm.RoadKit.acmp (g := (mkF m 31 #[.val (.ref a1), .val (.ref a2), .val (.ref a2)] [(.ref y2), (.ref x2)])) X6 hx rfl rfl rfl (pc0 := 31) (pc' := 34) (same := true) rfl (hb hby d9_31) rfl (decide_eq_true (congrArg Value.ref ha2)) (by decide) (by decide) hk) ?_
      refine own_st (V := T6.setTop (mkF m 35 #[.val (.ref a1), .val (.ref a2), .val (.ref a2)] [(.ref a1)])) (fun _ hk => XS.aloadN X6.here hx rfl (hb hby d9_34) rfl rfl hk) ?_
      obtain ⟨T7, X7, e7, st7⟩ := getF X6 hx hZ hown (host := "") (Or.inl (hw _ (List.mem_of_getElem? (i := 61) rfl))) Via.refl e6 Fx3 (g := (mkF m 35 #[.val (.ref a1), .val (.ref a2), .val (.ref a2)] [(.ref a1)])) rfl rfl (hb hby d9_35)
      refine own_st (V := T7.setTop (mkF m 38 #[.val (.ref a1), .val (.ref a2), .val (.ref a2)] [(.ref x3)])) st7 ?_
      refine own_st (V := T7.setTop (mkF m 39 #[.val (.ref a1), .val (.ref a2), .val (.ref a2)] [(.ref a2), (.ref x3)])) (fun _ hk => XS.aloadN X7.here hx rfl (hb hby d9_38) rfl rfl hk) ?_
      obtain ⟨T8, X8, e8, st8⟩ := getF X7 hx hZ hown (host := "") (Or.inl (hw _ (List.mem_of_getElem? (i := 61) rfl))) Via.refl e7 Fy3 (g := (mkF m 39 #[.val (.ref a1), .val (.ref a2), .val (.ref a2)] [(.ref a2), (.ref x3)])) rfl rfl (hb hby d9_39)
      refine own_st (V := T8.setTop (mkF m 42 #[.val (.ref a1), .val (.ref a2), .val (.ref a2)] [(.ref y3), (.ref x3)])) st8 ?_
      by_cases ha3 : x3 = y3
      · skip
        refine own_st (V := T8.setTop (mkF m 45 #[.val (.ref a1), .val (.ref a2), .val (.ref a2)] [])) (fun _ hk => Jvm.RoadKit.acmp (g := (mkF m 42 #[.val (.ref a1), .val (.ref a2), .val (.ref a2)] [(.ref y3), (.ref x3)])) X8 hx rfl rfl rfl (pc0 := 42) (pc' := 45) (same := true) rfl (hb hby d9_42) rfl (decide_eq_true (congrArg Value.ref ha3)) (by decide) (by decide) hk) ?_
        refine own_st (V := T8.setTop (mkF m 46 #[.val (.ref a1), .val (.ref a2), .val (.ref a2)] [(.ref a1)])) (fun _ hk => XS.aloadN X8.here hx rfl (hb hby d9_45) rfl rfl hk) ?_
        obtain ⟨T9, X9, e9, st9⟩ := getF X8 hx hZ hown (host := "") (Or.inl (hw _ (List.mem_of_getElem? (i := 66) rfl))) Via.refl e8 Fx4 (g := (mkF m 46 #[.val (.ref a1), .val (.ref a2), .val (.ref a2)] [(.ref a1)])) rfl rfl (hb hby d9_46)
        refine own_st (V := T9.setTop (mkF m 49 #[.val (.ref a1), .val (.ref a2), .val (.ref a2)] [(.ref x4)])) st9 ?_
        refine own_st (V := T9.setTop (mkF m 50 #[.val (.ref a1), .val (.ref a2), .val (.ref a2)] [(.ref a2), (.ref x4)])) (fun _ hk => XS.aloadN X9.here hx rfl (hb hby d9_49) rfl rfl hk) ?_
        obtain ⟨T10, X10, e10, st10⟩ := getF X9 hx hZ hown (host := "") (Or.inl (hw _ (List.mem_of_getElem? (i := 66) rfl))) Via.refl e9 Fy4 (g := (mkF m 50 #[.val (.ref a1), .val (.ref a2), .val (.ref a2)] [(.ref a2), (.ref x4)])) rfl rfl (hb hby d9_50)
        refine own_st (V := T10.setTop (mkF m 53 #[.val (.ref a1), .val (.ref a2), .val (.ref a2)] [(.ref y4), (.ref x4)])) st10 ?_
        by_cases ha4 : x4 = y4
        · skip
          refine own_st (V := T10.setTop (mkF m 56 #[.val (.ref a1), .val (.ref a2), .val (.ref a2)] [])) (fun _ hk => Jvm.RoadKit.acmp (g := (mkF m 53 #[.val (.ref a1), .val (.ref a2), .val (.ref a2)] [(.ref y4), (.ref x4)])) X10 hx rfl rfl rfl (pc0 := 53) (pc' := 56) (same := true) rfl (hb hby d9_53) rfl (decide_eq_true (congrArg Value.ref ha4)) (by decide) (by decide) hk) ?_
          refine own_st (V := T10.setTop (mkF m 57 #[.val (.ref a1), .val (.ref a2), .val (.ref a2)] [(.int (1 : Int32))])) (fun _ hk => XS.iconst X10.here hx rfl (hb hby d9_56) hk) ?_
          refine own_st (V := T10.setTop (mkF m 61 #[.val (.ref a1), .val (.ref a2), .val (.ref a2)] [(.int (1 : Int32))])) (fun _ hk => XS.goto X10.here hx rfl (pc0 := 57) (pc' := 61) rfl (hb hby d9_57) (by decide) (by decide) hk) ?_
          exact own_retN X10 hx Bd.notSynchronized Bd.returns rfl (by simp) (hb hby d9_61) (by decide) (by decide) (fun U hU hE => hF _ _ ⟨_, _, rfl, (by rw [hU, e10]; exact ⟨(by rw [own_b, if_pos ⟨ha1, ha2, ha3, ha4⟩]), N0, rfl⟩), hE⟩)
        · skip
          refine own_st (V := T10.setTop (mkF m 60 #[.val (.ref a1), .val (.ref a2), .val (.ref a2)] [])) (fun _ hk => Jvm.RoadKit.acmp (g := (mkF m 53 #[.val (.ref a1), .val (.ref a2), .val (.ref a2)] [(.ref y4), (.ref x4)])) X10 hx rfl rfl rfl (pc0 := 53) (pc' := 60) (same := false) rfl (hb hby d9_53) rfl (decide_eq_false fun q => ha4 (Value.ref.inj q)) (by decide) (by decide) hk) ?_
          refine own_st (V := T10.setTop (mkF m 61 #[.val (.ref a1), .val (.ref a2), .val (.ref a2)] [(.int (0 : Int32))])) (fun _ hk => XS.iconst X10.here hx rfl (hb hby d9_60) hk) ?_
          exact own_retN X10 hx Bd.notSynchronized Bd.returns rfl (by simp) (hb hby d9_61) (by decide) (by decide) (fun U hU hE => hF _ _ ⟨_, _, rfl, (by rw [hU, e10]; exact ⟨(by rw [own_b, if_neg fun k => ha4 k.2.2.2]), N0, rfl⟩), hE⟩)
      · skip
        refine own_st (V := T8.setTop (mkF m 60 #[.val (.ref a1), .val (.ref a2), .val (.ref a2)] [])) (fun _ hk => Jvm.RoadKit.acmp (g := (mkF m 42 #[.val (.ref a1), .val (.ref a2), .val (.ref a2)] [(.ref y3), (.ref x3)])) X8 hx rfl rfl rfl (pc0 := 42) (pc' := 60) (same := false) rfl (hb hby d9_42) rfl (decide_eq_false fun q => ha3 (Value.ref.inj q)) (by decide) (by decide) hk) ?_
        refine own_st (V := T8.setTop (mkF m 61 #[.val (.ref a1), .val (.ref a2), .val (.ref a2)] [(.int (0 : Int32))])) (fun _ hk => XS.iconst X8.here hx rfl (hb hby d9_60) hk) ?_
        exact own_retN X8 hx Bd.notSynchronized Bd.returns rfl (by simp) (hb hby d9_61) (by decide) (by decide) (fun U hU hE => hF _ _ ⟨_, _, rfl, (by rw [hU, e8]; exact ⟨(by rw [own_b, if_neg fun k => ha3 k.2.2.1]), N0, rfl⟩), hE⟩)
    · skip
      refine own_st (V := T6.setTop (mkF m 60 #[.val (.ref a1), .val (.ref a2), .val (.ref a2)] [])) (fun _ hk => Jvm.RoadKit.acmp (g := (mkF m 31 #[.val (.ref a1), .val (.ref a2), .val (.ref a2)] [(.ref y2), (.ref x2)])) X6 hx rfl rfl rfl (pc0 := 31) (pc' := 60) (same := false) rfl (hb hby d9_31) rfl (decide_eq_false fun q => ha2 (Value.ref.inj q)) (by decide) (by decide) hk) ?_
      refine own_st (V := T6.setTop (mkF m 61 #[.val (.ref a1), .val (.ref a2), .val (.ref a2)] [(.int (0 : Int32))])) (fun _ hk => XS.iconst X6.here hx rfl (hb hby d9_60) hk) ?_
      exact own_retN X6 hx Bd.notSynchronized Bd.returns rfl (by simp) (hb hby d9_61) (by decide) (by decide) (fun U hU hE => hF _ _ ⟨_, _, rfl, (by rw [hU, e6]; exact ⟨(by rw [own_b, if_neg fun k => ha2 k.2.1]), N0, rfl⟩), hE⟩)
  · skip
    refine own_st (V := T4.setTop (mkF m 60 #[.val (.ref a1), .val (.ref a2), .val (.ref a2)] [])) (fun _ hk => Jvm.RoadKit.acmp (g := (mkF m 20 #[.val (.ref a1), .val (.ref a2), .val (.ref a2)] [(.ref y1), (.ref x1)])) X4 hx rfl rfl rfl (pc0 := 20) (pc' := 60) (same := false) rfl (hb hby d9_20) rfl (decide_eq_false fun q => ha1 (Value.ref.inj q)) (by decide) (by decide) hk) ?_
    refine own_st (V := T4.setTop (mkF m 61 #[.val (.ref a1), .val (.ref a2), .val (.ref a2)] [(.int (0 : Int32))])) (fun _ hk => XS.iconst X4.here hx rfl (hb hby d9_60) hk) ?_
    exact own_retN X4 hx Bd.notSynchronized Bd.returns rfl (by simp) (hb hby d9_61) (by decide) (by decide) (fun U hU hE => hF _ _ ⟨_, _, rfl, (by rw [hU, e4]; exact ⟨(by rw [own_b, if_neg fun k => ha1 k.1]), N0, rfl⟩), hE⟩)
theorem own_ef_eqN (m : MethodId) (x0 : Addr) : entryFrame m #[(.ref x0), .null] 3 = mkF m 0 #[.val (.ref x0), .val .null, .unset] [] := by first | (simp [entryFrame, mkF, argsToLocals, Value.category]; done) | rfl
def Q_eqN (Z : State) (a1 : Addr) (h0 : Heap) (n0 : Nat) (v : Option Value) (h : Heap) (L : List Loc) : Prop := v = some (.int 0) ∧ Fr n0 L ∧ h = h0
set_option maxRecDepth 65536 in
set_option maxHeartbeats 40000000 in
theorem rm_eqN (l : Launch) (Z : State) (a0 : Array Value) (hw : ∀ d ∈ tables_1, d.before a0 Z = true) (ws : List Jvm.Cond) (a1 : Addr) (h0 : Heap) (n0 : Nat) (Z0 : n0 ≤ h0.size)  :
    MetFree l (⟨"com/example/rank_keeper/rankkeeper/board/BoardRules", "equals", "(Ljava/lang/Object;)Z"⟩ : MethodName) (head1 (Jvm.Cond.code (⟨"com/example/rank_keeper/rankkeeper/board/BoardRules", "equals", "(Ljava/lang/Object;)Z"⟩ : MethodName) prog_6_method_10_code 3 (some .boolean) :: ws) ({ frames := 0, cells := 0, slots := 0, locals := 0 } : Room)) (fun a U => a = #[(.ref a1), .null] ∧ Z.Warmed39 U.vm ∧ U.heap = h0) (fun _ _ _ _ _ => True) (fun _ U o U' => ∃ v L, o = .returned v ∧ Q_eqN Z a1 h0 n0 v U'.heap L ∧ FrameEnd U o U' L ({ frames := 0, cells := 0, slots := 0, locals := 0 } : Room).cells ({ frames := 0, cells := 0, slots := 0, locals := 0 } : Room).slots) := by
  refine MetFree.of_bodySF (plainFor_of_name own_pn_com_example_rank_keeper_rankkeeper_board_BoardRules) hisR ?_
  intro p e s m args below meth c s₁ Bd hml0 hP hK
  obtain ⟨rfl, hZ, hh⟩ := hP
  have hx := Bd.exec
  have hby := Bd.bytes
  have hml : c.maxLocals = 3 := hml0
  have hown : s.vm.findClass "com/example/rank_keeper/rankkeeper/board/BoardRules" = some m.cls := findClass_of_methodNamed Bd.named
  have hnm := (name_of_methodNamed Bd.named Bd.method).1
  have X0 : Stand p l e ({ frames := 0, cells := 0, slots := 0, locals := 0 } : Room) s m #[(.ref a1), .null] below meth c s₁ [] 0 0 := Stand.of_body Bd
  have e0 : s₁.heap = h0 := by rw [← hh, Bd.state]; rfl
  have N0 := Fr.nil n0
  refine own_start (F0 := fun o U' => ∃ v L, o = .returned v ∧ Q_eqN Z a1 h0 n0 v U'.heap L ∧ FrameEnd s o U' L ({ frames := 0, cells := 0, slots := 0, locals := 0 } : Room).cells ({ frames := 0, cells := 0, slots := 0, locals := 0 } : Room).slots) fun F hF => ?_
  rw [own_ef_eqN m a1]
  refine own_st (V := s₁.setTop (mkF m 1 #[.val (.ref a1), .val .null, .unset] [.null])) (fun _ hk => XS.aloadN X0.here hx rfl (hb hby d9_0) rfl rfl hk) ?_
  refine own_st (V := s₁.setTop (mkF m 4 #[.val (.ref a1), .val .null, .unset] [(.int (0 : Int32))])) (X0.instanceofNull hx (g := (mkF m 1 #[.val (.ref a1), .val .null, .unset] [.null])) rfl rfl (hb hby d9_1)) ?_
  refine own_st (V := s₁.setTop (mkF m 60 #[.val (.ref a1), .val .null, .unset] [])) (fun _ hk => XS.ifYes X0.here hx rfl (pc0 := 4) (pc' := 60) rfl (hb hby d9_4) rfl ((if0 _ _).trans (teq (show (0 : Int32) = (0 : Int32) from rfl)).1) (by decide) (by decide) hk) ?_
  refine own_st (V := s₁.setTop (mkF m 61 #[.val (.ref a1), .val .null, .unset] [(.int (0 : Int32))])) (fun _ hk => XS.iconst X0.here hx rfl (hb hby d9_60) hk) ?_
  exact own_retN X0 hx Bd.notSynchronized Bd.returns rfl (by simp) (hb hby d9_61) (by decide) (by decide) (fun U hU hE => hF _ _ ⟨_, _, rfl, (by rw [hU, e0]; exact ⟨rfl, N0, rfl⟩), hE⟩)
theorem own_ef_eqX (m : MethodId) (x0 : Addr) (x1 : Addr) : entryFrame m #[(.ref x0), (.ref x1)] 3 = mkF m 0 #[.val (.ref x0), .val (.ref x1), .unset] [] := by first | (simp [entryFrame, mkF, argsToLocals, Value.category]; done) | rfl
def Q_eqX (Z : State) (a1 a2 : Addr) (h0 : Heap) (n0 : Nat) (v : Option Value) (h : Heap) (L : List Loc) : Prop := v = some (.int 0) ∧ Fr n0 L ∧ h = h0
set_option maxRecDepth 65536 in
set_option maxHeartbeats 40000000 in
theorem rm_eqX (l : Launch) (Z : State) (a0 : Array Value) (hw : ∀ d ∈ tables_1, d.before a0 Z = true) (ws : List Jvm.Cond) (a1 a2 : Addr) (h0 : Heap) (n0 : Nat) (Z0 : n0 ≤ h0.size) (E_a2 : Exa Z h0 a2 "com/example/rank_keeper/rankkeeper/board/Order") :
    MetFree l (⟨"com/example/rank_keeper/rankkeeper/board/BoardRules", "equals", "(Ljava/lang/Object;)Z"⟩ : MethodName) (head1 (Jvm.Cond.code (⟨"com/example/rank_keeper/rankkeeper/board/BoardRules", "equals", "(Ljava/lang/Object;)Z"⟩ : MethodName) prog_6_method_10_code 3 (some .boolean) :: ws) ({ frames := 0, cells := 0, slots := 0, locals := 0 } : Room)) (fun a U => a = #[(.ref a1), (.ref a2)] ∧ Z.Warmed39 U.vm ∧ U.heap = h0) (fun _ _ _ _ _ => True) (fun _ U o U' => ∃ v L, o = .returned v ∧ Q_eqX Z a1 a2 h0 n0 v U'.heap L ∧ FrameEnd U o U' L ({ frames := 0, cells := 0, slots := 0, locals := 0 } : Room).cells ({ frames := 0, cells := 0, slots := 0, locals := 0 } : Room).slots) := by
  refine MetFree.of_bodySF (plainFor_of_name own_pn_com_example_rank_keeper_rankkeeper_board_BoardRules) hisR ?_
  intro p e s m args below meth c s₁ Bd hml0 hP hK
  obtain ⟨rfl, hZ, hh⟩ := hP
  have hx := Bd.exec
  have hby := Bd.bytes
  have hml : c.maxLocals = 3 := hml0
  have hown : s.vm.findClass "com/example/rank_keeper/rankkeeper/board/BoardRules" = some m.cls := findClass_of_methodNamed Bd.named
  have hnm := (name_of_methodNamed Bd.named Bd.method).1
  have X0 : Stand p l e ({ frames := 0, cells := 0, slots := 0, locals := 0 } : Room) s m #[(.ref a1), (.ref a2)] below meth c s₁ [] 0 0 := Stand.of_body Bd
  have e0 : s₁.heap = h0 := by rw [← hh, Bd.state]; rfl
  have N0 := Fr.nil n0
  refine own_start (F0 := fun o U' => ∃ v L, o = .returned v ∧ Q_eqX Z a1 a2 h0 n0 v U'.heap L ∧ FrameEnd s o U' L ({ frames := 0, cells := 0, slots := 0, locals := 0 } : Room).cells ({ frames := 0, cells := 0, slots := 0, locals := 0 } : Room).slots) fun F hF => ?_
  rw [own_ef_eqX m a1 a2]
  refine own_st (V := s₁.setTop (mkF m 1 #[.val (.ref a1), .val (.ref a2), .unset] [(.ref a2)])) (fun _ hk => XS.aloadN X0.here hx rfl (hb hby d9_0) rfl rfl hk) ?_
  obtain ⟨T1, X1, e1, st1⟩ := instNo X0 hx hZ hown (hw _ (List.mem_of_getElem? (i := 73) rfl)) e0 E_a2 (own_nsNo (hw _ (List.mem_of_getElem? (i := 75) rfl)) (hw _ (List.mem_of_getElem? (i := 5) rfl)) (NS.step (hw _ (List.mem_of_getElem? (i := 75) rfl)) (NS.step (hw _ (List.mem_of_getElem? (i := 76) rfl)) (own_nsRoot (hw _ (List.mem_of_getElem? (i := 77) rfl)) (hw _ (List.mem_of_getElem? (i := 5) rfl)) (by decide)) (by decide)) (by decide)) (by decide)) (g := (mkF m 1 #[.val (.ref a1), .val (.ref a2), .unset] [(.ref a2)])) rfl rfl (hb hby d9_1)
  refine own_st (V := T1.setTop (mkF m 4 #[.val (.ref a1), .val (.ref a2), .unset] [(.int (0 : Int32))])) st1 ?_
  refine own_st (V := T1.setTop (mkF m 60 #[.val (.ref a1), .val (.ref a2), .unset] [])) (fun _ hk => XS.ifYes X1.here hx rfl (pc0 := 4) (pc' := 60) rfl (hb hby d9_4) rfl ((if0 _ _).trans (teq (show (0 : Int32) = (0 : Int32) from rfl)).1) (by decide) (by decide) hk) ?_
  refine own_st (V := T1.setTop (mkF m 61 #[.val (.ref a1), .val (.ref a2), .unset] [(.int (0 : Int32))])) (fun _ hk => XS.iconst X1.here hx rfl (hb hby d9_60) hk) ?_
  exact own_retN X1 hx Bd.notSynchronized Bd.returns rfl (by simp) (hb hby d9_61) (by decide) (by decide) (fun U hU hE => hF _ _ ⟨_, _, rfl, (by rw [hU, e1]; exact ⟨rfl, N0, rfl⟩), hE⟩)
theorem own_same {Z : State} {o0 o1 p0 p1 p2 p3 t0 t1 d0 d1 d2 d3 : Addr} (hW : own_W Z o0 o1 p0 p1 p2 p3 t0 t1 d0 d1 d2 d3) {cc c' : Int32} (h : own_six cc) (h' : own_six c') : ((own_s2 o0 o1 (own_k0 cc)) = (own_s2 o0 o1 (own_k0 c')) ∧ (own_s4 p0 p1 p2 p3 (own_k1 cc)) = (own_s4 p0 p1 p2 p3 (own_k1 c')) ∧ (own_s2 t0 t1 (own_k2 cc)) = (own_s2 t0 t1 (own_k2 c')) ∧ (own_s4 d0 d1 d2 d3 (own_k3 cc)) = (own_s4 d0 d1 d2 d3 (own_k3 c'))) ↔ cc = c' := by
  obtain ⟨n_o0, n_o1, n_p0, n_p1, n_p2, n_p3, n_t0, n_t1, n_d0, n_d1, n_d2, n_d3⟩ := hW
  rw [own_s2_inj (own_en_ne n_o0 n_o1 (by decide)) (own_r0 h) (own_r0 h'), own_s2_inj (own_en_ne n_t0 n_t1 (by decide)) (own_r2 h) (own_r2 h')]
  rw [own_s4_inj (own_en_ne n_p0 n_p1 (by decide)) (own_en_ne n_p0 n_p2 (by decide)) (own_en_ne n_p0 n_p3 (by decide)) (own_en_ne n_p1 n_p2 (by decide)) (own_en_ne n_p1 n_p3 (by decide)) (own_en_ne n_p2 n_p3 (by decide)) (own_r1 h) (own_r1 h')]
  rw [own_s4_inj (own_en_ne n_d0 n_d1 (by decide)) (own_en_ne n_d0 n_d2 (by decide)) (own_en_ne n_d0 n_d3 (by decide)) (own_en_ne n_d1 n_d2 (by decide)) (own_en_ne n_d1 n_d3 (by decide)) (own_en_ne n_d2 n_d3 (by decide)) (own_r3 h) (own_r3 h')]
  constructor
  · rintro ⟨e0, e1, e2, e3⟩
    rw [own_whole h, own_whole h', e0, e1, e2, e3]
  · rintro rfl
    exact ⟨rfl, rfl, rfl, rfl⟩
theorem own_b_iff {P Q : Prop} [Decidable P] [Decidable Q] (h : P ↔ Q) : own_b P = own_b Q := by
  unfold own_b
  by_cases q : P
  · rw [if_pos q, if_pos (h.mp q)]
  · rw [if_neg q, if_neg fun k => q (h.mpr k)]
theorem own_pd6 : parseMethodDescriptor "(I)Lcom/example/rank_keeper/rankkeeper/board/BoardRules;" = some ⟨[.int], some (.object "com/example/rank_keeper/rankkeeper/board/BoardRules")⟩ := by decide +kernel
theorem own_pd7 : parseMethodDescriptor "(Ljava/lang/Object;)Z" = some ⟨[(.object "java/lang/Object")], some .boolean⟩ := by decide +kernel
theorem own_ef_law (m : MethodId) (x0 : Int32) (x1 : Int32) : entryFrame m #[(.int x0), (.int x1)] maxLocals = mkF m 0 #[.val (.int x0), .val (.int x1), .unset, .unset, .unset, .unset, .unset, .unset, .unset, .unset, .unset, .unset, .unset] [] := by first | (simp [entryFrame, mkF, argsToLocals, Value.category, maxLocals]; done) | rfl
def Q_law (Z : State) (x0 y0 : Int32) (o0 o1 p0 p1 p2 p3 t0 t1 d0 d1 d2 d3 : Addr) (h0 : Heap) (n0 : Nat) (v : Option Value) (h : Heap) (L : List Loc) : Prop := v = some (.int 1) ∧ Fr n0 L
set_option maxRecDepth 65536 in
set_option maxHeartbeats 40000000 in
theorem rm_law (l : Launch) (Z : State) (a0 : Array Value) (hw : ∀ d ∈ tables_1, d.before a0 Z = true) (ws : List Jvm.Cond) (x0 y0 : Int32) (o0 o1 p0 p1 p2 p3 t0 t1 d0 d1 d2 d3 : Addr) (h0 : Heap) (n0 : Nat) (Z0 : n0 ≤ h0.size) (O : Old Z n0 h0) (hW : own_W Z o0 o1 p0 p1 p2 p3 t0 t1 d0 d1 d2 d3) :
    MetFree l x (head1 (Jvm.Cond.code x code maxLocals ret :: ws) room_1) (fun a U => a = #[(.int x0), (.int y0)] ∧ Z.Warmed39 U.vm ∧ U.heap = h0) (fun _ _ _ _ _ => True) (fun _ U o U' => ∃ v L, o = .returned v ∧ Q_law Z x0 y0 o0 o1 p0 p1 p2 p3 t0 t1 d0 d1 d2 d3 h0 n0 v U'.heap L ∧ ReturnedEndW U o U' L 24 4224) := by
  refine MetFree.of_bodySF (plainFor_of_name own_pn_com_example_rank_keeper_rankkeeper_board_BoardRulesEqualsPinLaw) hisR ?_
  intro p e s m args below meth c s₁ Bd hml0 hP hK
  obtain ⟨rfl, hZ, hh⟩ := hP
  have hx := Bd.exec
  have hby := Bd.bytes
  have hml : c.maxLocals = 13 := hml0
  have hown : s.vm.findClass "com/example/rank_keeper/rankkeeper/board/BoardRulesEqualsPinLaw" = some m.cls := findClass_of_methodNamed Bd.named
  have hnm := (name_of_methodNamed Bd.named Bd.method).1
  have X0 : Stand p l e room_1 (s.setVm s.vm) m #[(.int x0), (.int y0)] below meth c s₁ [] 0 0 := Stand.of_body Bd
  have e0 : s₁.heap = h0 := by rw [← hh, Bd.state]; rfl
  have N0 := Fr.nil n0
  have hZ : Z.Warmed39 (s.setVm s.vm).vm := hZ
  have hown : (s.setVm s.vm).vm.findClass "com/example/rank_keeper/rankkeeper/board/BoardRulesEqualsPinLaw" = some m.cls := hown
  have hS0 := own_since s h0.size
  have hk0 : h0.size ≤ h0.size := Nat.le_refl _
  refine own_start (F0 := fun o U' => ∃ v L, o = .returned v ∧ Q_law Z x0 y0 o0 o1 p0 p1 p2 p3 t0 t1 d0 d1 d2 d3 h0 n0 v U'.heap L ∧ ReturnedEndW s o U' L 24 4224) fun F hF => ?_
  rw [own_ef_law m x0 y0]
  obtain ⟨c1, hc1⟩ : ∃ z, z = x0 &&& (63 : Int32) := ⟨_, rfl⟩
  have six1 : own_six c1 := by rw [hc1]; exact own_six_and _
  have J22 : ∀ (df : Int32) (hdf : df.toBitVec.toNat < 2 ^ 6), own_G p e below F (s₁.setTop (mkF m 22 #[.val (.int x0), .val (.int y0), .val (.int c1), .unset, .unset, .unset, .unset, .unset, .unset, .unset, .unset, .unset, .unset] [(.int df)])) := by
    intro df hdf
    obtain ⟨c2, hc2⟩ : ∃ z, z = c1 ^^^ df := ⟨_, rfl⟩
    have six2 : own_six c2 := by rw [hc2, hc1]; exact own_six_xor _ _ hdf
    refine own_st (V := s₁.setTop (mkF m 23 #[.val (.int x0), .val (.int y0), .val (.int c1), .val (.int df), .unset, .unset, .unset, .unset, .unset, .unset, .unset, .unset, .unset] [])) (fun _ hk => XS.istoreN X0.here hx rfl (hb hby at_22) rfl  (l' := #[.val (.int x0), .val (.int y0), .val (.int c1), .val (.int df), .unset, .unset, .unset, .unset, .unset, .unset, .unset, .unset, .unset]) rfl hk) ?_
    refine own_st (V := s₁.setTop (mkF m 24 #[.val (.int x0), .val (.int y0), .val (.int c1), .val (.int df), .unset, .unset, .unset, .unset, .unset, .unset, .unset, .unset, .unset] [(.int c1)])) (fun _ hk => XS.iloadN X0.here hx rfl (hb hby at_23) rfl  hk) ?_
    refine own_st (V := s₁.setTop (mkF m 25 #[.val (.int x0), .val (.int y0), .val (.int c1), .val (.int df), .unset, .unset, .unset, .unset, .unset, .unset, .unset, .unset, .unset] [(.int df), (.int c1)])) (fun _ hk => XS.iloadN X0.here hx rfl (hb hby at_24) rfl  hk) ?_
    refine own_st (V := s₁.setTop (mkF m 26 #[.val (.int x0), .val (.int y0), .val (.int c1), .val (.int df), .unset, .unset, .unset, .unset, .unset, .unset, .unset, .unset, .unset] [(.int (c1 ^^^ df))])) (fun _ hk => XS.ixor X0.here hx rfl (hb hby at_25) rfl hk) ?_
    rw [← hc2]
    refine own_st (V := s₁.setTop (mkF m 28 #[.val (.int x0), .val (.int y0), .val (.int c1), .val (.int df), .val (.int c2), .unset, .unset, .unset, .unset, .unset, .unset, .unset, .unset] [])) (fun _ hk => XS.istore X0.here hx rfl (hb hby at_26) rfl  (l' := #[.val (.int x0), .val (.int y0), .val (.int c1), .val (.int df), .val (.int c2), .unset, .unset, .unset, .unset, .unset, .unset, .unset, .unset]) rfl hk) ?_
    refine own_st (V := s₁.setTop (mkF m 29 #[.val (.int x0), .val (.int y0), .val (.int c1), .val (.int df), .val (.int c2), .unset, .unset, .unset, .unset, .unset, .unset, .unset, .unset] [(.int c1)])) (fun _ hk => XS.iloadN X0.here hx rfl (hb hby at_28) rfl  hk) ?_
    obtain ⟨_, _, ⟨T1, L1, k1, n1⟩, -, X1, hSn1, hgr1, ⟨Lc1, hQ1, l1, y1, z1⟩, st1⟩ := callSS X0 hx (y := (⟨"com/example/rank_keeper/rankkeeper/board/BoardRulesEqualsPinLaw", "rules", "(I)Lcom/example/rank_keeper/rankkeeper/board/BoardRules;"⟩ : MethodName)) hown (mvT hZ (hw _ (List.mem_of_getElem? (i := 0) rfl))) (mvT hZ (hw _ (List.mem_of_getElem? (i := 1) rfl))) (mvT hZ (hw _ (List.mem_of_getElem? (i := 2) rfl))) (mvT hZ (hw _ (List.mem_of_getElem? (i := 3) rfl))) (by decide) (backOfS (W := 0) (rm_rules l Z a0 hw [] c1 o0 o1 p0 p1 p2 p3 t0 t1 d0 d1 d2 d3 h0 n0 Z0 O hW) hZ (hw _ (List.mem_of_getElem? (i := 3) rfl)) (hw _ (List.mem_of_getElem? (i := 2) rfl)) (by decide) (by decide)) (g := (mkF m 29 #[.val (.int x0), .val (.int y0), .val (.int c1), .val (.int df), .val (.int c2), .unset, .unset, .unset, .unset, .unset, .unset, .unset, .unset] [(.int c1)])) rfl (by rw [hml]; rfl) (argsL := [(.int c1)]) (rest := []) (lenOf own_pd6 rfl) rfl (by show 2 * 0 + _ ≤ _; exact Nat.le_of_eq rfl) (hb hby at_29) (fun _ _ => ⟨rfl, e0, (by decide : 0 + 9 ≤ _), (by decide : 0 + 112 ≤ _)⟩)
    dsimp only [Pt.U, Pt.locs, Pt.cells, Pt.slots] at X1 l1 y1 z1 st1 hQ1 hSn1 hgr1
    subst l1 y1 z1
    obtain ⟨rA, rfl, N1q, KA, sA, E_A, FA1, FA2, FA3, FA4⟩ := hQ1
    have N1 := Fr.app N0 N1q
    obtain ⟨Xr1, hSr1, hZr1, hownr1⟩ := rebS hS0 (by rw [e0]; exact hk0 : _ ≤ s₁.heap.size) X1 hSn1 hgr1 hZ hown
    refine own_tr (V := T1.setTop (mkF m 32 #[.val (.int x0), .val (.int y0), .val (.int c1), .val (.int df), .val (.int c2), .unset, .unset, .unset, .unset, .unset, .unset, .unset, .unset] [(.ref rA)])) st1 ?_
    have hkr1 : T1.heap.size ≤ T1.heap.size := Nat.le_refl _
    have Z0 : n0 ≤ T1.heap.size := Nat.le_trans Z0 KA.1
    have O := O.keep KA all0
    refine own_st (V := T1.setTop (mkF m 34 #[.val (.int x0), .val (.int y0), .val (.int c1), .val (.int df), .val (.int c2), .val (.ref rA), .unset, .unset, .unset, .unset, .unset, .unset, .unset] [])) (fun _ hk => XS.astore Xr1.here hx rfl (hb hby at_32) rfl rfl (l' := #[.val (.int x0), .val (.int y0), .val (.int c1), .val (.int df), .val (.int c2), .val (.ref rA), .unset, .unset, .unset, .unset, .unset, .unset, .unset]) rfl hk) ?_
    refine own_st (V := T1.setTop (mkF m 36 #[.val (.int x0), .val (.int y0), .val (.int c1), .val (.int df), .val (.int c2), .val (.ref rA), .unset, .unset, .unset, .unset, .unset, .unset, .unset] [(.int c2)])) (fun _ hk => XS.iload Xr1.here hx rfl (hb hby at_34) rfl  hk) ?_
    obtain ⟨_, _, ⟨T2, L2, k2, n2⟩, -, X2, hSn2, hgr2, ⟨Lc2, hQ2, l2, y2, z2⟩, st2⟩ := callSS Xr1 hx (y := (⟨"com/example/rank_keeper/rankkeeper/board/BoardRulesEqualsPinLaw", "rules", "(I)Lcom/example/rank_keeper/rankkeeper/board/BoardRules;"⟩ : MethodName)) hownr1 (mvT hZr1 (hw _ (List.mem_of_getElem? (i := 0) rfl))) (mvT hZr1 (hw _ (List.mem_of_getElem? (i := 1) rfl))) (mvT hZr1 (hw _ (List.mem_of_getElem? (i := 2) rfl))) (mvT hZr1 (hw _ (List.mem_of_getElem? (i := 3) rfl))) (by decide) (backOfS (W := 0) (rm_rules l Z a0 hw [] c2 o0 o1 p0 p1 p2 p3 t0 t1 d0 d1 d2 d3 T1.heap n0 Z0 O hW) hZr1 (hw _ (List.mem_of_getElem? (i := 3) rfl)) (hw _ (List.mem_of_getElem? (i := 2) rfl)) (by decide) (by decide)) (g := (mkF m 36 #[.val (.int x0), .val (.int y0), .val (.int c1), .val (.int df), .val (.int c2), .val (.ref rA), .unset, .unset, .unset, .unset, .unset, .unset, .unset] [(.int c2)])) rfl (by rw [hml]; rfl) (argsL := [(.int c2)]) (rest := []) (lenOf own_pd6 rfl) rfl (by show 2 * 0 + _ ≤ _; exact Nat.le_of_eq rfl) (hb hby at_36) (fun _ _ => ⟨rfl, rfl, (by decide : 9 + 9 ≤ _), (by decide : 112 + 112 ≤ _)⟩)
    dsimp only [Pt.U, Pt.locs, Pt.cells, Pt.slots] at X2 l2 y2 z2 st2 hQ2 hSn2 hgr2
    subst l2 y2 z2
    obtain ⟨rB, rfl, N2q, KB, sB, E_B, FB1, FB2, FB3, FB4⟩ := hQ2
    have N2 := Fr.app N1 N2q
    obtain ⟨Xr2, hSr2, hZr2, hownr2⟩ := rebS hSr1 hkr1 X2 hSn2 hgr2 hZr1 hownr1
    refine own_tr (V := T2.setTop (mkF m 39 #[.val (.int x0), .val (.int y0), .val (.int c1), .val (.int df), .val (.int c2), .val (.ref rA), .unset, .unset, .unset, .unset, .unset, .unset, .unset] [(.ref rB)])) st2 ?_
    have hkr2 : T2.heap.size ≤ T2.heap.size := Nat.le_refl _
    have E_A := E_A.keep KB
    have FA1 := FA1.keep KB nin0
    have FA2 := FA2.keep KB nin0
    have FA3 := FA3.keep KB nin0
    have FA4 := FA4.keep KB nin0
    have Z0 : n0 ≤ T2.heap.size := Nat.le_trans Z0 KB.1
    have O := O.keep KB all0
    refine own_st (V := T2.setTop (mkF m 41 #[.val (.int x0), .val (.int y0), .val (.int c1), .val (.int df), .val (.int c2), .val (.ref rA), .val (.ref rB), .unset, .unset, .unset, .unset, .unset, .unset] [])) (fun _ hk => XS.astore Xr2.here hx rfl (hb hby at_39) rfl rfl (l' := #[.val (.int x0), .val (.int y0), .val (.int c1), .val (.int df), .val (.int c2), .val (.ref rA), .val (.ref rB), .unset, .unset, .unset, .unset, .unset, .unset]) rfl hk) ?_
    refine own_st (V := T2.setTop (mkF m 42 #[.val (.int x0), .val (.int y0), .val (.int c1), .val (.int df), .val (.int c2), .val (.ref rA), .val (.ref rB), .unset, .unset, .unset, .unset, .unset, .unset] [(.int c1)])) (fun _ hk => XS.iloadN Xr2.here hx rfl (hb hby at_41) rfl  hk) ?_
    refine own_st (V := T2.setTop (mkF m 44 #[.val (.int x0), .val (.int y0), .val (.int c1), .val (.int df), .val (.int c2), .val (.ref rA), .val (.ref rB), .unset, .unset, .unset, .unset, .unset, .unset] [(.int c2), (.int c1)])) (fun _ hk => XS.iload Xr2.here hx rfl (hb hby at_42) rfl  hk) ?_
    have J52 : ∀ (sm : Int32) (hsm : sm = own_b (c1 = c2)), own_G p e below F (T2.setTop (mkF m 52 #[.val (.int x0), .val (.int y0), .val (.int c1), .val (.int df), .val (.int c2), .val (.ref rA), .val (.ref rB), .unset, .unset, .unset, .unset, .unset, .unset] [(.int sm)])) := by
      intro sm hsm
      refine own_st (V := T2.setTop (mkF m 54 #[.val (.int x0), .val (.int y0), .val (.int c1), .val (.int df), .val (.int c2), .val (.ref rA), .val (.ref rB), .val (.int sm), .unset, .unset, .unset, .unset, .unset] [])) (fun _ hk => XS.istore Xr2.here hx rfl (hb hby at_52) rfl  (l' := #[.val (.int x0), .val (.int y0), .val (.int c1), .val (.int df), .val (.int c2), .val (.ref rA), .val (.ref rB), .val (.int sm), .unset, .unset, .unset, .unset, .unset]) rfl hk) ?_
      refine own_st (V := T2.setTop (mkF m 56 #[.val (.int x0), .val (.int y0), .val (.int c1), .val (.int df), .val (.int c2), .val (.ref rA), .val (.ref rB), .val (.int sm), .unset, .unset, .unset, .unset, .unset] [(.ref rA)])) (fun _ hk => XS.aload Xr2.here hx rfl (hb hby at_54) rfl rfl hk) ?_
      refine own_st (V := T2.setTop (mkF m 58 #[.val (.int x0), .val (.int y0), .val (.int c1), .val (.int df), .val (.int c2), .val (.ref rA), .val (.ref rB), .val (.int sm), .unset, .unset, .unset, .unset, .unset] [(.ref rB), (.ref rA)])) (fun _ hk => XS.aload Xr2.here hx rfl (hb hby at_56) rfl rfl hk) ?_
      obtain ⟨cq3, kq3, q3a, q3b, q3c⟩ := isOf hZr2 rfl E_A
      obtain ⟨_, _, ⟨T3, L3, k3, n3⟩, -, X3, ⟨Lc3, hQ3, l3, y3, z3⟩, st3⟩ := Xr2.virtualBack hx (y := (⟨"com/example/rank_keeper/rankkeeper/board/BoardRules", "equals", "(Ljava/lang/Object;)Z"⟩ : MethodName)) (z := (⟨"com/example/rank_keeper/rankkeeper/board/BoardRules", "equals", "(Ljava/lang/Object;)Z"⟩ : MethodName)) hownr2 (mvT hZr2 (hw _ (List.mem_of_getElem? (i := 68) rfl))) (mvT hZr2 (hw _ (List.mem_of_getElem? (i := 69) rfl))) (notFace_of_selects (args := #[]) (mvT hZr2 (hw _ (List.mem_of_getElem? (i := 71) rfl)))) (mvT hZr2 (hw _ (List.mem_of_getElem? (i := 71) rfl))) (mvT hZr2 (hw _ (List.mem_of_getElem? (i := 70) rfl))) (by decide) (backOf (W := 0) (rm_eqO l Z a0 hw [] rA rB (own_s2 o0 o1 (own_k0 c1)) (own_s4 p0 p1 p2 p3 (own_k1 c1)) (own_s2 t0 t1 (own_k2 c1)) (own_s4 d0 d1 d2 d3 (own_k3 c1)) (own_s2 o0 o1 (own_k0 c2)) (own_s4 p0 p1 p2 p3 (own_k1 c2)) (own_s2 t0 t1 (own_k2 c2)) (own_s4 d0 d1 d2 d3 (own_k3 c2)) T2.heap n0 Z0 E_B FA1 FA2 FA3 FA4 FB1 FB2 FB3 FB4) hZr2 (hw _ (List.mem_of_getElem? (i := 72) rfl)) (hw _ (List.mem_of_getElem? (i := 6) rfl)) (by decide) (by decide)) q3a q3c (g := (mkF m 58 #[.val (.int x0), .val (.int y0), .val (.int c1), .val (.int df), .val (.int c2), .val (.ref rA), .val (.ref rB), .val (.int sm), .unset, .unset, .unset, .unset, .unset] [(.ref rB), (.ref rA)])) rfl (by rw [hml]; rfl) (Steps.refl _) (argsL := [(.ref rB)]) (rest := []) (lenOf own_pd7 rfl) rfl (by show 2 * 0 + _ ≤ _; exact Nat.le_of_eq rfl) (hb hby at_58) (fun _ _ => ⟨rfl, rfl, (by decide : 18 + 0 ≤ _), (by decide : 224 + 0 ≤ _)⟩)
      dsimp only [Pt.U, Pt.locs, Pt.cells, Pt.slots] at X3 l3 y3 z3 st3 hQ3
      subst l3 y3 z3
      obtain ⟨rfl, N3q, es3⟩ := hQ3
      have N3 := Fr.app N2 N3q
      refine own_tr (V := T3.setTop (mkF m 61 #[.val (.int x0), .val (.int y0), .val (.int c1), .val (.int df), .val (.int c2), .val (.ref rA), .val (.ref rB), .val (.int sm), .unset, .unset, .unset, .unset, .unset] [(.int (own_b ((own_s2 o0 o1 (own_k0 c1)) = (own_s2 o0 o1 (own_k0 c2)) ∧ (own_s4 p0 p1 p2 p3 (own_k1 c1)) = (own_s4 p0 p1 p2 p3 (own_k1 c2)) ∧ (own_s2 t0 t1 (own_k2 c1)) = (own_s2 t0 t1 (own_k2 c2)) ∧ (own_s4 d0 d1 d2 d3 (own_k3 c1)) = (own_s4 d0 d1 d2 d3 (own_k3 c2)))))])) st3 ?_
      rw [own_b_iff (own_same hW six1 six2), ← hsm]
      refine own_st (V := T3.setTop (mkF m 63 #[.val (.int x0), .val (.int y0), .val (.int c1), .val (.int df), .val (.int c2), .val (.ref rA), .val (.ref rB), .val (.int sm), .val (.int sm), .unset, .unset, .unset, .unset] [])) (fun _ hk => XS.istore X3.here hx rfl (hb hby at_61) rfl  (l' := #[.val (.int x0), .val (.int y0), .val (.int c1), .val (.int df), .val (.int c2), .val (.ref rA), .val (.ref rB), .val (.int sm), .val (.int sm), .unset, .unset, .unset, .unset]) rfl hk) ?_
      refine own_st (V := T3.setTop (mkF m 65 #[.val (.int x0), .val (.int y0), .val (.int c1), .val (.int df), .val (.int c2), .val (.ref rA), .val (.ref rB), .val (.int sm), .val (.int sm), .unset, .unset, .unset, .unset] [(.ref rB)])) (fun _ hk => XS.aload X3.here hx rfl (hb hby at_63) rfl rfl hk) ?_
      refine own_st (V := T3.setTop (mkF m 67 #[.val (.int x0), .val (.int y0), .val (.int c1), .val (.int df), .val (.int c2), .val (.ref rA), .val (.ref rB), .val (.int sm), .val (.int sm), .unset, .unset, .unset, .unset] [(.ref rA), (.ref rB)])) (fun _ hk => XS.aload X3.here hx rfl (hb hby at_65) rfl rfl hk) ?_
      obtain ⟨cq4, kq4, q4a, q4b, q4c⟩ := isOf hZr2 es3 E_B
      obtain ⟨_, _, ⟨T4, L4, k4, n4⟩, -, X4, ⟨Lc4, hQ4, l4, y4, z4⟩, st4⟩ := X3.virtualBack hx (y := (⟨"com/example/rank_keeper/rankkeeper/board/BoardRules", "equals", "(Ljava/lang/Object;)Z"⟩ : MethodName)) (z := (⟨"com/example/rank_keeper/rankkeeper/board/BoardRules", "equals", "(Ljava/lang/Object;)Z"⟩ : MethodName)) hownr2 (mvT hZr2 (hw _ (List.mem_of_getElem? (i := 68) rfl))) (mvT hZr2 (hw _ (List.mem_of_getElem? (i := 69) rfl))) (notFace_of_selects (args := #[]) (mvT hZr2 (hw _ (List.mem_of_getElem? (i := 71) rfl)))) (mvT hZr2 (hw _ (List.mem_of_getElem? (i := 71) rfl))) (mvT hZr2 (hw _ (List.mem_of_getElem? (i := 70) rfl))) (by decide) (backOf (W := 0) (rm_eqO l Z a0 hw [] rB rA (own_s2 o0 o1 (own_k0 c2)) (own_s4 p0 p1 p2 p3 (own_k1 c2)) (own_s2 t0 t1 (own_k2 c2)) (own_s4 d0 d1 d2 d3 (own_k3 c2)) (own_s2 o0 o1 (own_k0 c1)) (own_s4 p0 p1 p2 p3 (own_k1 c1)) (own_s2 t0 t1 (own_k2 c1)) (own_s4 d0 d1 d2 d3 (own_k3 c1)) T2.heap n0 Z0 E_A FB1 FB2 FB3 FB4 FA1 FA2 FA3 FA4) hZr2 (hw _ (List.mem_of_getElem? (i := 72) rfl)) (hw _ (List.mem_of_getElem? (i := 6) rfl)) (by decide) (by decide)) q4a q4c (g := (mkF m 67 #[.val (.int x0), .val (.int y0), .val (.int c1), .val (.int df), .val (.int c2), .val (.ref rA), .val (.ref rB), .val (.int sm), .val (.int sm), .unset, .unset, .unset, .unset] [(.ref rA), (.ref rB)])) rfl (by rw [hml]; rfl) (Steps.refl _) (argsL := [(.ref rA)]) (rest := []) (lenOf own_pd7 rfl) rfl (by show 2 * 0 + _ ≤ _; exact Nat.le_of_eq rfl) (hb hby at_67) (fun _ _ => ⟨rfl, es3, (by decide : 18 + 0 ≤ _), (by decide : 224 + 0 ≤ _)⟩)
      dsimp only [Pt.U, Pt.locs, Pt.cells, Pt.slots] at X4 l4 y4 z4 st4 hQ4
      subst l4 y4 z4
      obtain ⟨rfl, N4q, es4⟩ := hQ4
      have N4 := Fr.app N3 N4q
      refine own_tr (V := T4.setTop (mkF m 70 #[.val (.int x0), .val (.int y0), .val (.int c1), .val (.int df), .val (.int c2), .val (.ref rA), .val (.ref rB), .val (.int sm), .val (.int sm), .unset, .unset, .unset, .unset] [(.int (own_b ((own_s2 o0 o1 (own_k0 c2)) = (own_s2 o0 o1 (own_k0 c1)) ∧ (own_s4 p0 p1 p2 p3 (own_k1 c2)) = (own_s4 p0 p1 p2 p3 (own_k1 c1)) ∧ (own_s2 t0 t1 (own_k2 c2)) = (own_s2 t0 t1 (own_k2 c1)) ∧ (own_s4 d0 d1 d2 d3 (own_k3 c2)) = (own_s4 d0 d1 d2 d3 (own_k3 c1)))))])) st4 ?_
      rw [own_b_iff ((own_same hW six2 six1).trans eq_comm), ← hsm]
      refine own_st (V := T4.setTop (mkF m 72 #[.val (.int x0), .val (.int y0), .val (.int c1), .val (.int df), .val (.int c2), .val (.ref rA), .val (.ref rB), .val (.int sm), .val (.int sm), .val (.int sm), .unset, .unset, .unset] [])) (fun _ hk => XS.istore X4.here hx rfl (hb hby at_70) rfl  (l' := #[.val (.int x0), .val (.int y0), .val (.int c1), .val (.int df), .val (.int c2), .val (.ref rA), .val (.ref rB), .val (.int sm), .val (.int sm), .val (.int sm), .unset, .unset, .unset]) rfl hk) ?_
      refine own_st (V := T4.setTop (mkF m 74 #[.val (.int x0), .val (.int y0), .val (.int c1), .val (.int df), .val (.int c2), .val (.ref rA), .val (.ref rB), .val (.int sm), .val (.int sm), .val (.int sm), .unset, .unset, .unset] [(.ref rA)])) (fun _ hk => XS.aload X4.here hx rfl (hb hby at_72) rfl rfl hk) ?_
      refine own_st (V := T4.setTop (mkF m 76 #[.val (.int x0), .val (.int y0), .val (.int c1), .val (.int df), .val (.int c2), .val (.ref rA), .val (.ref rB), .val (.int sm), .val (.int sm), .val (.int sm), .unset, .unset, .unset] [(.ref rA), (.ref rA)])) (fun _ hk => XS.aload X4.here hx rfl (hb hby at_74) rfl rfl hk) ?_
      obtain ⟨cq5, kq5, q5a, q5b, q5c⟩ := isOf hZr2 es4 E_A
      obtain ⟨_, _, ⟨T5, L5, k5, n5⟩, -, X5, ⟨Lc5, hQ5, l5, y5, z5⟩, st5⟩ := X4.virtualBack hx (y := (⟨"com/example/rank_keeper/rankkeeper/board/BoardRules", "equals", "(Ljava/lang/Object;)Z"⟩ : MethodName)) (z := (⟨"com/example/rank_keeper/rankkeeper/board/BoardRules", "equals", "(Ljava/lang/Object;)Z"⟩ : MethodName)) hownr2 (mvT hZr2 (hw _ (List.mem_of_getElem? (i := 68) rfl))) (mvT hZr2 (hw _ (List.mem_of_getElem? (i := 69) rfl))) (notFace_of_selects (args := #[]) (mvT hZr2 (hw _ (List.mem_of_getElem? (i := 71) rfl)))) (mvT hZr2 (hw _ (List.mem_of_getElem? (i := 71) rfl))) (mvT hZr2 (hw _ (List.mem_of_getElem? (i := 70) rfl))) (by decide) (backOf (W := 0) (rm_eqO l Z a0 hw [] rA rA (own_s2 o0 o1 (own_k0 c1)) (own_s4 p0 p1 p2 p3 (own_k1 c1)) (own_s2 t0 t1 (own_k2 c1)) (own_s4 d0 d1 d2 d3 (own_k3 c1)) (own_s2 o0 o1 (own_k0 c1)) (own_s4 p0 p1 p2 p3 (own_k1 c1)) (own_s2 t0 t1 (own_k2 c1)) (own_s4 d0 d1 d2 d3 (own_k3 c1)) T2.heap n0 Z0 E_A FA1 FA2 FA3 FA4 FA1 FA2 FA3 FA4) hZr2 (hw _ (List.mem_of_getElem? (i := 72) rfl)) (hw _ (List.mem_of_getElem? (i := 6) rfl)) (by decide) (by decide)) q5a q5c (g := (mkF m 76 #[.val (.int x0), .val (.int y0), .val (.int c1), .val (.int df), .val (.int c2), .val (.ref rA), .val (.ref rB), .val (.int sm), .val (.int sm), .val (.int sm), .unset, .unset, .unset] [(.ref rA), (.ref rA)])) rfl (by rw [hml]; rfl) (Steps.refl _) (argsL := [(.ref rA)]) (rest := []) (lenOf own_pd7 rfl) rfl (by show 2 * 0 + _ ≤ _; exact Nat.le_of_eq rfl) (hb hby at_76) (fun _ _ => ⟨rfl, es4, (by decide : 18 + 0 ≤ _), (by decide : 224 + 0 ≤ _)⟩)
      dsimp only [Pt.U, Pt.locs, Pt.cells, Pt.slots] at X5 l5 y5 z5 st5 hQ5
      subst l5 y5 z5
      obtain ⟨rfl, N5q, es5⟩ := hQ5
      have N5 := Fr.app N4 N5q
      refine own_tr (V := T5.setTop (mkF m 79 #[.val (.int x0), .val (.int y0), .val (.int c1), .val (.int df), .val (.int c2), .val (.ref rA), .val (.ref rB), .val (.int sm), .val (.int sm), .val (.int sm), .unset, .unset, .unset] [(.int (own_b ((own_s2 o0 o1 (own_k0 c1)) = (own_s2 o0 o1 (own_k0 c1)) ∧ (own_s4 p0 p1 p2 p3 (own_k1 c1)) = (own_s4 p0 p1 p2 p3 (own_k1 c1)) ∧ (own_s2 t0 t1 (own_k2 c1)) = (own_s2 t0 t1 (own_k2 c1)) ∧ (own_s4 d0 d1 d2 d3 (own_k3 c1)) = (own_s4 d0 d1 d2 d3 (own_k3 c1)))))])) st5 ?_
      rw [show (own_b ((own_s2 o0 o1 (own_k0 c1)) = (own_s2 o0 o1 (own_k0 c1)) ∧ (own_s4 p0 p1 p2 p3 (own_k1 c1)) = (own_s4 p0 p1 p2 p3 (own_k1 c1)) ∧ (own_s2 t0 t1 (own_k2 c1)) = (own_s2 t0 t1 (own_k2 c1)) ∧ (own_s4 d0 d1 d2 d3 (own_k3 c1)) = (own_s4 d0 d1 d2 d3 (own_k3 c1)))) = 1 from if_pos ⟨rfl, rfl, rfl, rfl⟩]
      refine own_st (V := T5.setTop (mkF m 81 #[.val (.int x0), .val (.int y0), .val (.int c1), .val (.int df), .val (.int c2), .val (.ref rA), .val (.ref rB), .val (.int sm), .val (.int sm), .val (.int sm), .val (.int (1 : Int32)), .unset, .unset] [])) (fun _ hk => XS.istore X5.here hx rfl (hb hby at_79) rfl  (l' := #[.val (.int x0), .val (.int y0), .val (.int c1), .val (.int df), .val (.int c2), .val (.ref rA), .val (.ref rB), .val (.int sm), .val (.int sm), .val (.int sm), .val (.int (1 : Int32)), .unset, .unset]) rfl hk) ?_
      refine own_st (V := T5.setTop (mkF m 83 #[.val (.int x0), .val (.int y0), .val (.int c1), .val (.int df), .val (.int c2), .val (.ref rA), .val (.ref rB), .val (.int sm), .val (.int sm), .val (.int sm), .val (.int (1 : Int32)), .unset, .unset] [(.ref rA)])) (fun _ hk => XS.aload X5.here hx rfl (hb hby at_81) rfl rfl hk) ?_
      refine own_st (V := T5.setTop (mkF m 84 #[.val (.int x0), .val (.int y0), .val (.int c1), .val (.int df), .val (.int c2), .val (.ref rA), .val (.ref rB), .val (.int sm), .val (.int sm), .val (.int sm), .val (.int (1 : Int32)), .unset, .unset] [.null, (.ref rA)])) (fun _ hk => XS.aconstNull X5.here hx rfl (hb hby at_83) hk) ?_
      obtain ⟨cq6, kq6, q6a, q6b, q6c⟩ := isOf hZr2 es5 E_A
      obtain ⟨_, _, ⟨T6, L6, k6, n6⟩, -, X6, ⟨Lc6, hQ6, l6, y6, z6⟩, st6⟩ := X5.virtualBack hx (y := (⟨"com/example/rank_keeper/rankkeeper/board/BoardRules", "equals", "(Ljava/lang/Object;)Z"⟩ : MethodName)) (z := (⟨"com/example/rank_keeper/rankkeeper/board/BoardRules", "equals", "(Ljava/lang/Object;)Z"⟩ : MethodName)) hownr2 (mvT hZr2 (hw _ (List.mem_of_getElem? (i := 68) rfl))) (mvT hZr2 (hw _ (List.mem_of_getElem? (i := 69) rfl))) (notFace_of_selects (args := #[]) (mvT hZr2 (hw _ (List.mem_of_getElem? (i := 71) rfl)))) (mvT hZr2 (hw _ (List.mem_of_getElem? (i := 71) rfl))) (mvT hZr2 (hw _ (List.mem_of_getElem? (i := 70) rfl))) (by decide) (backOf (W := 0) (rm_eqN l Z a0 hw [] rA T2.heap n0 Z0) hZr2 (hw _ (List.mem_of_getElem? (i := 72) rfl)) (hw _ (List.mem_of_getElem? (i := 6) rfl)) (by decide) (by decide)) q6a q6c (g := (mkF m 84 #[.val (.int x0), .val (.int y0), .val (.int c1), .val (.int df), .val (.int c2), .val (.ref rA), .val (.ref rB), .val (.int sm), .val (.int sm), .val (.int sm), .val (.int (1 : Int32)), .unset, .unset] [.null, (.ref rA)])) rfl (by rw [hml]; rfl) (Steps.refl _) (argsL := [.null]) (rest := []) (lenOf own_pd7 rfl) rfl (by show 2 * 0 + _ ≤ _; exact Nat.le_of_eq rfl) (hb hby at_84) (fun _ _ => ⟨rfl, es5, (by decide : 18 + 0 ≤ _), (by decide : 224 + 0 ≤ _)⟩)
      dsimp only [Pt.U, Pt.locs, Pt.cells, Pt.slots] at X6 l6 y6 z6 st6 hQ6
      subst l6 y6 z6
      obtain ⟨rfl, N6q, es6⟩ := hQ6
      have N6 := Fr.app N5 N6q
      refine own_tr (V := T6.setTop (mkF m 87 #[.val (.int x0), .val (.int y0), .val (.int c1), .val (.int df), .val (.int c2), .val (.ref rA), .val (.ref rB), .val (.int sm), .val (.int sm), .val (.int sm), .val (.int (1 : Int32)), .unset, .unset] [(.int (0 : Int32))])) st6 ?_
      refine own_st (V := T6.setTop (mkF m 89 #[.val (.int x0), .val (.int y0), .val (.int c1), .val (.int df), .val (.int c2), .val (.ref rA), .val (.ref rB), .val (.int sm), .val (.int sm), .val (.int sm), .val (.int (1 : Int32)), .val (.int (0 : Int32)), .unset] [])) (fun _ hk => XS.istore X6.here hx rfl (hb hby at_87) rfl  (l' := #[.val (.int x0), .val (.int y0), .val (.int c1), .val (.int df), .val (.int c2), .val (.ref rA), .val (.ref rB), .val (.int sm), .val (.int sm), .val (.int sm), .val (.int (1 : Int32)), .val (.int (0 : Int32)), .unset]) rfl hk) ?_
      refine own_st (V := T6.setTop (mkF m 91 #[.val (.int x0), .val (.int y0), .val (.int c1), .val (.int df), .val (.int c2), .val (.ref rA), .val (.ref rB), .val (.int sm), .val (.int sm), .val (.int sm), .val (.int (1 : Int32)), .val (.int (0 : Int32)), .unset] [(.ref rA)])) (fun _ hk => XS.aload X6.here hx rfl (hb hby at_89) rfl rfl hk) ?_
      refine own_st (V := T6.setTop (mkF m 92 #[.val (.int x0), .val (.int y0), .val (.int c1), .val (.int df), .val (.int c2), .val (.ref rA), .val (.ref rB), .val (.int sm), .val (.int sm), .val (.int sm), .val (.int (1 : Int32)), .val (.int (0 : Int32)), .unset] [(.int c1), (.ref rA)])) (fun _ hk => XS.iloadN X6.here hx rfl (hb hby at_91) rfl  hk) ?_
      obtain ⟨n_o0, n_o1, n_p0, n_p1, n_p2, n_p3, n_t0, n_t1, n_d0, n_d1, n_d2, n_d3⟩ := hW
      obtain ⟨_, _, ⟨T7, L7, k7, n7⟩, -, X7, ⟨Lc7, hQ7, l7, y7, z7⟩, st7⟩ := Jvm.LawKit.callS X6 hx (y := (⟨"com/example/rank_keeper/rankkeeper/board/BoardRulesEqualsPinLaw", "order", "(I)Lcom/example/rank_keeper/rankkeeper/board/Order;"⟩ : MethodName)) hownr2 (mvT hZr2 (hw _ (List.mem_of_getElem? (i := 7) rfl))) (mvT hZr2 (hw _ (List.mem_of_getElem? (i := 8) rfl))) (mvT hZr2 (hw _ (List.mem_of_getElem? (i := 2) rfl))) (mvT hZr2 (hw _ (List.mem_of_getElem? (i := 9) rfl))) (by decide) (backOf (W := 1) (rm_order l Z a0 hw [] c1 o0 o1 T2.heap n0 Z0 O n_o0.1 n_o1.1) hZr2 (hw _ (List.mem_of_getElem? (i := 9) rfl)) (hw _ (List.mem_of_getElem? (i := 2) rfl)) (by decide) (by decide)) (g := (mkF m 92 #[.val (.int x0), .val (.int y0), .val (.int c1), .val (.int df), .val (.int c2), .val (.ref rA), .val (.ref rB), .val (.int sm), .val (.int sm), .val (.int sm), .val (.int (1 : Int32)), .val (.int (0 : Int32)), .unset] [(.int c1), (.ref rA)])) rfl (by rw [hml]; rfl) (argsL := [(.int c1)]) (rest := [(.ref rA)]) (lenOf own_pd1 rfl) rfl (by show 2 * 0 + _ ≤ _; exact Nat.le_of_eq rfl) (hb hby at_92) (fun _ _ => ⟨rfl, es6, (by decide : 18 + 0 ≤ _), (by decide : 224 + 0 ≤ _)⟩)
      dsimp only [Pt.U, Pt.locs, Pt.cells, Pt.slots] at X7 l7 y7 z7 st7 hQ7
      subst l7 y7 z7
      obtain ⟨rfl, N7q, es7⟩ := hQ7
      have N7 := Fr.app N6 N7q
      refine own_st (V := T7.setTop (mkF m 95 #[.val (.int x0), .val (.int y0), .val (.int c1), .val (.int df), .val (.int c2), .val (.ref rA), .val (.ref rB), .val (.int sm), .val (.int sm), .val (.int sm), .val (.int (1 : Int32)), .val (.int (0 : Int32)), .unset] [(.ref (own_s2 o0 o1 (own_k0 c1))), (.ref rA)])) st7 ?_
      have E_ord := own_s2_exa (n_o0.2.1.ext O.2) (n_o1.2.1.ext O.2) (own_k0 c1)
      obtain ⟨cq8, kq8, q8a, q8b, q8c⟩ := isOf hZr2 es7 E_A
      obtain ⟨_, _, ⟨T8, L8, k8, n8⟩, -, X8, ⟨Lc8, hQ8, l8, y8, z8⟩, st8⟩ := X7.virtualBack hx (y := (⟨"com/example/rank_keeper/rankkeeper/board/BoardRules", "equals", "(Ljava/lang/Object;)Z"⟩ : MethodName)) (z := (⟨"com/example/rank_keeper/rankkeeper/board/BoardRules", "equals", "(Ljava/lang/Object;)Z"⟩ : MethodName)) hownr2 (mvT hZr2 (hw _ (List.mem_of_getElem? (i := 68) rfl))) (mvT hZr2 (hw _ (List.mem_of_getElem? (i := 69) rfl))) (notFace_of_selects (args := #[]) (mvT hZr2 (hw _ (List.mem_of_getElem? (i := 71) rfl)))) (mvT hZr2 (hw _ (List.mem_of_getElem? (i := 71) rfl))) (mvT hZr2 (hw _ (List.mem_of_getElem? (i := 70) rfl))) (by decide) (backOf (W := 0) (rm_eqX l Z a0 hw [] rA (own_s2 o0 o1 (own_k0 c1)) T2.heap n0 Z0 E_ord) hZr2 (hw _ (List.mem_of_getElem? (i := 72) rfl)) (hw _ (List.mem_of_getElem? (i := 6) rfl)) (by decide) (by decide)) q8a q8c (g := (mkF m 95 #[.val (.int x0), .val (.int y0), .val (.int c1), .val (.int df), .val (.int c2), .val (.ref rA), .val (.ref rB), .val (.int sm), .val (.int sm), .val (.int sm), .val (.int (1 : Int32)), .val (.int (0 : Int32)), .unset] [(.ref (own_s2 o0 o1 (own_k0 c1))), (.ref rA)])) rfl (by rw [hml]; rfl) (Steps.refl _) (argsL := [(.ref (own_s2 o0 o1 (own_k0 c1)))]) (rest := []) (lenOf own_pd7 rfl) rfl (by show 2 * 0 + _ ≤ _; exact Nat.le_of_eq rfl) (hb hby at_95) (fun _ _ => ⟨rfl, es7, (by decide : 18 + 0 ≤ _), (by decide : 224 + 0 ≤ _)⟩)
      dsimp only [Pt.U, Pt.locs, Pt.cells, Pt.slots] at X8 l8 y8 z8 st8 hQ8
      subst l8 y8 z8
      obtain ⟨rfl, N8q, es8⟩ := hQ8
      have N8 := Fr.app N7 N8q
      refine own_tr (V := T8.setTop (mkF m 98 #[.val (.int x0), .val (.int y0), .val (.int c1), .val (.int df), .val (.int c2), .val (.ref rA), .val (.ref rB), .val (.int sm), .val (.int sm), .val (.int sm), .val (.int (1 : Int32)), .val (.int (0 : Int32)), .unset] [(.int (0 : Int32))])) st8 ?_
      refine own_st (V := T8.setTop (mkF m 100 #[.val (.int x0), .val (.int y0), .val (.int c1), .val (.int df), .val (.int c2), .val (.ref rA), .val (.ref rB), .val (.int sm), .val (.int sm), .val (.int sm), .val (.int (1 : Int32)), .val (.int (0 : Int32)), .val (.int (0 : Int32))] [])) (fun _ hk => XS.istore X8.here hx rfl (hb hby at_98) rfl  (l' := #[.val (.int x0), .val (.int y0), .val (.int c1), .val (.int df), .val (.int c2), .val (.ref rA), .val (.ref rB), .val (.int sm), .val (.int sm), .val (.int sm), .val (.int (1 : Int32)), .val (.int (0 : Int32)), .val (.int (0 : Int32))]) rfl hk) ?_
      refine own_st (V := T8.setTop (mkF m 102 #[.val (.int x0), .val (.int y0), .val (.int c1), .val (.int df), .val (.int c2), .val (.ref rA), .val (.ref rB), .val (.int sm), .val (.int sm), .val (.int sm), .val (.int (1 : Int32)), .val (.int (0 : Int32)), .val (.int (0 : Int32))] [(.int sm)])) (fun _ hk => XS.iload X8.here hx rfl (hb hby at_100) rfl  hk) ?_
      refine own_st (V := T8.setTop (mkF m 104 #[.val (.int x0), .val (.int y0), .val (.int c1), .val (.int df), .val (.int c2), .val (.ref rA), .val (.ref rB), .val (.int sm), .val (.int sm), .val (.int sm), .val (.int (1 : Int32)), .val (.int (0 : Int32)), .val (.int (0 : Int32))] [(.int sm), (.int sm)])) (fun _ hk => XS.iload X8.here hx rfl (hb hby at_102) rfl  hk) ?_
      refine own_st (V := T8.setTop (mkF m 107 #[.val (.int x0), .val (.int y0), .val (.int c1), .val (.int df), .val (.int c2), .val (.ref rA), .val (.ref rB), .val (.int sm), .val (.int sm), .val (.int sm), .val (.int (1 : Int32)), .val (.int (0 : Int32)), .val (.int (0 : Int32))] [])) (fun _ hk => XS.icmpNo X8.here hx rfl (hb hby at_104) rfl (teq (show sm = sm from rfl)).2 hk) ?_
      refine own_st (V := T8.setTop (mkF m 109 #[.val (.int x0), .val (.int y0), .val (.int c1), .val (.int df), .val (.int c2), .val (.ref rA), .val (.ref rB), .val (.int sm), .val (.int sm), .val (.int sm), .val (.int (1 : Int32)), .val (.int (0 : Int32)), .val (.int (0 : Int32))] [(.int sm)])) (fun _ hk => XS.iload X8.here hx rfl (hb hby at_107) rfl  hk) ?_
      refine own_st (V := T8.setTop (mkF m 111 #[.val (.int x0), .val (.int y0), .val (.int c1), .val (.int df), .val (.int c2), .val (.ref rA), .val (.ref rB), .val (.int sm), .val (.int sm), .val (.int sm), .val (.int (1 : Int32)), .val (.int (0 : Int32)), .val (.int (0 : Int32))] [(.int sm), (.int sm)])) (fun _ hk => XS.iload X8.here hx rfl (hb hby at_109) rfl  hk) ?_
      refine own_st (V := T8.setTop (mkF m 114 #[.val (.int x0), .val (.int y0), .val (.int c1), .val (.int df), .val (.int c2), .val (.ref rA), .val (.ref rB), .val (.int sm), .val (.int sm), .val (.int sm), .val (.int (1 : Int32)), .val (.int (0 : Int32)), .val (.int (0 : Int32))] [])) (fun _ hk => XS.icmpNo X8.here hx rfl (hb hby at_111) rfl (teq (show sm = sm from rfl)).2 hk) ?_
      refine own_st (V := T8.setTop (mkF m 116 #[.val (.int x0), .val (.int y0), .val (.int c1), .val (.int df), .val (.int c2), .val (.ref rA), .val (.ref rB), .val (.int sm), .val (.int sm), .val (.int sm), .val (.int (1 : Int32)), .val (.int (0 : Int32)), .val (.int (0 : Int32))] [(.int (1 : Int32))])) (fun _ hk => XS.iload X8.here hx rfl (hb hby at_114) rfl  hk) ?_
      refine own_st (V := T8.setTop (mkF m 119 #[.val (.int x0), .val (.int y0), .val (.int c1), .val (.int df), .val (.int c2), .val (.ref rA), .val (.ref rB), .val (.int sm), .val (.int sm), .val (.int sm), .val (.int (1 : Int32)), .val (.int (0 : Int32)), .val (.int (0 : Int32))] [])) (fun _ hk => XS.ifNo X8.here hx rfl (hb hby at_116) rfl ((if0 _ _).trans (feq (show ¬ ((1 : Int32) = (0 : Int32)) from (by decide))).1) hk) ?_
      refine own_st (V := T8.setTop (mkF m 121 #[.val (.int x0), .val (.int y0), .val (.int c1), .val (.int df), .val (.int c2), .val (.ref rA), .val (.ref rB), .val (.int sm), .val (.int sm), .val (.int sm), .val (.int (1 : Int32)), .val (.int (0 : Int32)), .val (.int (0 : Int32))] [(.int (0 : Int32))])) (fun _ hk => XS.iload X8.here hx rfl (hb hby at_119) rfl  hk) ?_
      refine own_st (V := T8.setTop (mkF m 124 #[.val (.int x0), .val (.int y0), .val (.int c1), .val (.int df), .val (.int c2), .val (.ref rA), .val (.ref rB), .val (.int sm), .val (.int sm), .val (.int sm), .val (.int (1 : Int32)), .val (.int (0 : Int32)), .val (.int (0 : Int32))] [])) (fun _ hk => XS.ifNo X8.here hx rfl (hb hby at_121) rfl ((if0 _ _).trans (teq (show (0 : Int32) = (0 : Int32) from rfl)).2) hk) ?_
      refine own_st (V := T8.setTop (mkF m 126 #[.val (.int x0), .val (.int y0), .val (.int c1), .val (.int df), .val (.int c2), .val (.ref rA), .val (.ref rB), .val (.int sm), .val (.int sm), .val (.int sm), .val (.int (1 : Int32)), .val (.int (0 : Int32)), .val (.int (0 : Int32))] [(.int (0 : Int32))])) (fun _ hk => XS.iload X8.here hx rfl (hb hby at_124) rfl  hk) ?_
      refine own_st (V := T8.setTop (mkF m 129 #[.val (.int x0), .val (.int y0), .val (.int c1), .val (.int df), .val (.int c2), .val (.ref rA), .val (.ref rB), .val (.int sm), .val (.int sm), .val (.int sm), .val (.int (1 : Int32)), .val (.int (0 : Int32)), .val (.int (0 : Int32))] [])) (fun _ hk => XS.ifNo X8.here hx rfl (hb hby at_126) rfl ((if0 _ _).trans (teq (show (0 : Int32) = (0 : Int32) from rfl)).2) hk) ?_
      refine own_st (V := T8.setTop (mkF m 130 #[.val (.int x0), .val (.int y0), .val (.int c1), .val (.int df), .val (.int c2), .val (.ref rA), .val (.ref rB), .val (.int sm), .val (.int sm), .val (.int sm), .val (.int (1 : Int32)), .val (.int (0 : Int32)), .val (.int (0 : Int32))] [(.int (1 : Int32))])) (fun _ hk => XS.iconst X8.here hx rfl (hb hby at_129) hk) ?_
      refine own_st (V := T8.setTop (mkF m 134 #[.val (.int x0), .val (.int y0), .val (.int c1), .val (.int df), .val (.int c2), .val (.ref rA), .val (.ref rB), .val (.int sm), .val (.int sm), .val (.int sm), .val (.int (1 : Int32)), .val (.int (0 : Int32)), .val (.int (0 : Int32))] [(.int (1 : Int32))])) (fun _ hk => XS.goto X8.here hx rfl (pc0 := 130) (pc' := 134) rfl (hb hby at_130) (by decide) (by decide) hk) ?_
      exact own_retNW X8 hSr2 (by rw [es8]; exact hkr2) hx Bd.notSynchronized Bd.returns rfl (by simp) (hb hby at_134) (by decide) (by decide) (fun U hU hV hE => hF _ _ ⟨_, _, rfl, (by rw [hU, es8]; exact ⟨rfl, N8⟩), hE⟩)
    by_cases hc44 : c1 = c2
    · skip
      refine own_st (V := T2.setTop (mkF m 47 #[.val (.int x0), .val (.int y0), .val (.int c1), .val (.int df), .val (.int c2), .val (.ref rA), .val (.ref rB), .unset, .unset, .unset, .unset, .unset, .unset] [])) (fun _ hk => XS.icmpNo Xr2.here hx rfl (hb hby at_44) rfl (teq (show c1 = c2 from hc44)).2 hk) ?_
      refine own_st (V := T2.setTop (mkF m 48 #[.val (.int x0), .val (.int y0), .val (.int c1), .val (.int df), .val (.int c2), .val (.ref rA), .val (.ref rB), .unset, .unset, .unset, .unset, .unset, .unset] [(.int (1 : Int32))])) (fun _ hk => XS.iconst Xr2.here hx rfl (hb hby at_47) hk) ?_
      refine own_st (V := T2.setTop (mkF m 52 #[.val (.int x0), .val (.int y0), .val (.int c1), .val (.int df), .val (.int c2), .val (.ref rA), .val (.ref rB), .unset, .unset, .unset, .unset, .unset, .unset] [(.int (1 : Int32))])) (fun _ hk => XS.goto Xr2.here hx rfl (pc0 := 48) (pc' := 52) rfl (hb hby at_48) (by decide) (by decide) hk) ?_
      exact J52 _ (if_pos hc44).symm
    · skip
      refine own_st (V := T2.setTop (mkF m 51 #[.val (.int x0), .val (.int y0), .val (.int c1), .val (.int df), .val (.int c2), .val (.ref rA), .val (.ref rB), .unset, .unset, .unset, .unset, .unset, .unset] [])) (fun _ hk => XS.icmpYes Xr2.here hx rfl (pc0 := 44) (pc' := 51) rfl (hb hby at_44) rfl (feq (show ¬ (c1 = c2) from hc44)).2 (by decide) (by decide) hk) ?_
      refine own_st (V := T2.setTop (mkF m 52 #[.val (.int x0), .val (.int y0), .val (.int c1), .val (.int df), .val (.int c2), .val (.ref rA), .val (.ref rB), .unset, .unset, .unset, .unset, .unset, .unset] [(.int (0 : Int32))])) (fun _ hk => XS.iconst Xr2.here hx rfl (hb hby at_51) hk) ?_
      exact J52 _ (if_neg hc44).symm
  refine own_st (V := s₁.setTop (mkF m 1 #[.val (.int x0), .val (.int y0), .unset, .unset, .unset, .unset, .unset, .unset, .unset, .unset, .unset, .unset, .unset] [(.int x0)])) (fun _ hk => XS.iloadN X0.here hx rfl (hb hby at_0) rfl  hk) ?_
  refine own_st (V := s₁.setTop (mkF m 3 #[.val (.int x0), .val (.int y0), .unset, .unset, .unset, .unset, .unset, .unset, .unset, .unset, .unset, .unset, .unset] [(.int (63 : Int32)), (.int x0)])) (fun _ hk => XS.bipush X0.here hx rfl (hb hby at_1) hk) ?_
  refine own_st (V := s₁.setTop (mkF m 4 #[.val (.int x0), .val (.int y0), .unset, .unset, .unset, .unset, .unset, .unset, .unset, .unset, .unset, .unset, .unset] [(.int (x0 &&& (63 : Int32)))])) (fun _ hk => XS.iand X0.here hx rfl (hb hby at_3) rfl hk) ?_
  rw [← hc1]
  refine own_st (V := s₁.setTop (mkF m 5 #[.val (.int x0), .val (.int y0), .val (.int c1), .unset, .unset, .unset, .unset, .unset, .unset, .unset, .unset, .unset, .unset] [])) (fun _ hk => XS.istoreN X0.here hx rfl (hb hby at_4) rfl  (l' := #[.val (.int x0), .val (.int y0), .val (.int c1), .unset, .unset, .unset, .unset, .unset, .unset, .unset, .unset, .unset, .unset]) rfl hk) ?_
  refine own_st (V := s₁.setTop (mkF m 6 #[.val (.int x0), .val (.int y0), .val (.int c1), .unset, .unset, .unset, .unset, .unset, .unset, .unset, .unset, .unset, .unset] [(.int y0)])) (fun _ hk => XS.iloadN X0.here hx rfl (hb hby at_5) rfl  hk) ?_
  refine own_st (V := s₁.setTop (mkF m 8 #[.val (.int x0), .val (.int y0), .val (.int c1), .unset, .unset, .unset, .unset, .unset, .unset, .unset, .unset, .unset, .unset] [(.int (6 : Int32)), (.int y0)])) (fun _ hk => XS.bipush X0.here hx rfl (hb hby at_6) hk) ?_
  refine own_st (V := s₁.setTop (mkF m 9 #[.val (.int x0), .val (.int y0), .val (.int c1), .unset, .unset, .unset, .unset, .unset, .unset, .unset, .unset, .unset, .unset] [(.int ((y0.toUInt32 >>> ((6 : Int32) &&& 31).toUInt32).toInt32))])) (fun _ hk => XS.iushr X0.here hx rfl (hb hby at_8) rfl hk) ?_
  refine own_st (V := s₁.setTop (mkF m 10 #[.val (.int x0), .val (.int y0), .val (.int c1), .unset, .unset, .unset, .unset, .unset, .unset, .unset, .unset, .unset, .unset] [(.int (3 : Int32)), (.int ((y0.toUInt32 >>> ((6 : Int32) &&& 31).toUInt32).toInt32))])) (fun _ hk => XS.iconst X0.here hx rfl (hb hby at_9) hk) ?_
  refine own_st (V := s₁.setTop (mkF m 11 #[.val (.int x0), .val (.int y0), .val (.int c1), .unset, .unset, .unset, .unset, .unset, .unset, .unset, .unset, .unset, .unset] [(.int (((y0.toUInt32 >>> ((6 : Int32) &&& 31).toUInt32).toInt32) &&& (3 : Int32)))])) (fun _ hk => XS.iand X0.here hx rfl (hb hby at_10) rfl hk) ?_
  by_cases hc11 : (((y0.toUInt32 >>> ((6 : Int32) &&& 31).toUInt32).toInt32) &&& (3 : Int32)) = (0 : Int32)
  · skip
    refine own_st (V := s₁.setTop (mkF m 14 #[.val (.int x0), .val (.int y0), .val (.int c1), .unset, .unset, .unset, .unset, .unset, .unset, .unset, .unset, .unset, .unset] [])) (fun _ hk => XS.ifNo X0.here hx rfl (hb hby at_11) rfl ((if0 _ _).trans (teq (show (((y0.toUInt32 >>> ((6 : Int32) &&& 31).toUInt32).toInt32) &&& (3 : Int32)) = (0 : Int32) from hc11)).2) hk) ?_
    refine own_st (V := s₁.setTop (mkF m 15 #[.val (.int x0), .val (.int y0), .val (.int c1), .unset, .unset, .unset, .unset, .unset, .unset, .unset, .unset, .unset, .unset] [(.int (0 : Int32))])) (fun _ hk => XS.iconst X0.here hx rfl (hb hby at_14) hk) ?_
    refine own_st (V := s₁.setTop (mkF m 22 #[.val (.int x0), .val (.int y0), .val (.int c1), .unset, .unset, .unset, .unset, .unset, .unset, .unset, .unset, .unset, .unset] [(.int (0 : Int32))])) (fun _ hk => XS.goto X0.here hx rfl (pc0 := 15) (pc' := 22) rfl (hb hby at_15) (by decide) (by decide) hk) ?_
    exact J22 _ (by decide)
  · skip
    refine own_st (V := s₁.setTop (mkF m 18 #[.val (.int x0), .val (.int y0), .val (.int c1), .unset, .unset, .unset, .unset, .unset, .unset, .unset, .unset, .unset, .unset] [])) (fun _ hk => XS.ifYes X0.here hx rfl (pc0 := 11) (pc' := 18) rfl (hb hby at_11) rfl ((if0 _ _).trans (feq (show ¬ ((((y0.toUInt32 >>> ((6 : Int32) &&& 31).toUInt32).toInt32) &&& (3 : Int32)) = (0 : Int32)) from hc11)).2) (by decide) (by decide) hk) ?_
    refine own_st (V := s₁.setTop (mkF m 19 #[.val (.int x0), .val (.int y0), .val (.int c1), .unset, .unset, .unset, .unset, .unset, .unset, .unset, .unset, .unset, .unset] [(.int y0)])) (fun _ hk => XS.iloadN X0.here hx rfl (hb hby at_18) rfl  hk) ?_
    refine own_st (V := s₁.setTop (mkF m 21 #[.val (.int x0), .val (.int y0), .val (.int c1), .unset, .unset, .unset, .unset, .unset, .unset, .unset, .unset, .unset, .unset] [(.int (63 : Int32)), (.int y0)])) (fun _ hk => XS.bipush X0.here hx rfl (hb hby at_19) hk) ?_
    refine own_st (V := s₁.setTop (mkF m 22 #[.val (.int x0), .val (.int y0), .val (.int c1), .unset, .unset, .unset, .unset, .unset, .unset, .unset, .unset, .unset, .unset] [(.int (y0 &&& (63 : Int32)))])) (fun _ hk => XS.iand X0.here hx rfl (hb hby at_21) rfl hk) ?_
    exact J22 _ (own_m63 _)
theorem own_fldI {s : State} {args : Array Value} {t : Term} {x : Addr} {C n d : String} {z : Int32} (ht : t.eval args s none [] s = some (.ref x)) (h : (Jvm.Cond.eq (.field t C n d) (.int z)).value args s none s [] = some true) : Fld s s.heap x C n d (.int z) := by
  obtain ⟨u, w, e1, e2, k1, -⟩ := cmp_v (Or.inl h)
  rw [Term.int_eval] at e2
  cases e2
  have e3 := e1
  rw [fld_at ht] at e1
  cases u with
  | int y =>
    have q := gotT (Cond.eq_ints e3 (Term.int_eval z)) h
    subst q
    exact Fld.start e1
  | _ => simp [Kin, Value.isRef] at k1
set_option maxRecDepth 65536 in
set_option maxHeartbeats 40000000 in
theorem comes_1 {Post : Tables → Env → Array Value → State → Outcome → State → Prop} (hpost : ∀ tb e args s v u, (limb_1_1.after args s (.returned v) u = true ∧ limb_1_2.after args s (.returned v) u = true ∧ True) → ReturnedEndW s (.returned v) u (Jvm.fieldLocs frame_1_writes args s ++ Jvm.arrayLocs frame_1_arrays args s ++ Jvm.staticLocs frame_1_statics s) 24 4224 → Post tb e args s (.returned v) u) :
    ArmFor flags0 classFile x code maxLocals ret World_1 tables_1 room_1 Calls_1 rest_1 Pre_1 Post := by
  intro l hfl _ _ p e ha hc hk s m args below hf hA hF happ hP
  obtain ⟨hcalls, hrest, hpre⟩ := hP
  obtain ⟨-, -, -, hnamed, -, -, -, hat⟩ := (Spec.applies_iff hf).mp happ
  obtain ⟨hg, hn⟩ := and_e (Cond.before_iff.mp (show (Jvm.Cond.and given_1 narrow_1).before args s = true from hpre))
  obtain ⟨h1, g0⟩ := and_e hg
  obtain ⟨k0, g1⟩ := and_e g0
  have k1 := g1
  obtain ⟨w0, w1, rfl⟩ : ∃ w0 w1 : Value, args = #[w0, w1] := by
    have hs : args.size = 2 := by simpa [Cond.value, given_1] using h1
    obtain ⟨L⟩ := args
    match L, hs with
    | [w0, w1], _ => exact ⟨w0, w1, rfl⟩
  have hw := fun d (hd : d ∈ tables_1) => atoms_spec (ws := Jvm.Cond.code x code maxLocals ret :: tables_1) hat d (List.mem_cons_of_mem _ hd)
  have hfit : Fit s := fun {y c} hc i hi => by
    obtain ⟨ha, rfl⟩ := Array.getElem?_eq_some_iff.mp hc
    have q := List.all_eq_true.mp ((Array.all_eq_true_iff_forall_mem.mp hF) _ (Array.getElem_mem ha)) i (List.mem_range.mpr hi)
    simpa [Array.getElem?_eq_getElem hi] using q
  obtain ⟨x0, e_x0⟩ := is_v k0
  obtain rfl : w0 = (.int x0) := Option.some.inj e_x0
  obtain ⟨y0, e_y0⟩ := is_v k1
  obtain rfl : w1 = (.int y0) := Option.some.inj e_y0
  obtain ⟨q0, z1⟩ := and_e hn
  obtain ⟨q1, z2⟩ := and_e z1
  obtain ⟨q2, z3⟩ := and_e z2
  obtain ⟨q3, z4⟩ := and_e z3
  obtain ⟨q4, z5⟩ := and_e z4
  obtain ⟨q5, z6⟩ := and_e z5
  obtain ⟨q6, z7⟩ := and_e z6
  obtain ⟨q7, z8⟩ := and_e z7
  obtain ⟨q8, z9⟩ := and_e z8
  obtain ⟨q9, z10⟩ := and_e z9
  obtain ⟨q10, z11⟩ := and_e z10
  obtain ⟨q11, z12⟩ := and_e z11
  obtain ⟨q12, z13⟩ := and_e z12
  obtain ⟨q13, z14⟩ := and_e z13
  obtain ⟨q14, z15⟩ := and_e z14
  obtain ⟨q15, z16⟩ := and_e z15
  obtain ⟨q16, z17⟩ := and_e z16
  obtain ⟨q17, z18⟩ := and_e z17
  obtain ⟨q18, z19⟩ := and_e z18
  obtain ⟨q19, z20⟩ := and_e z19
  obtain ⟨q20, z21⟩ := and_e z20
  obtain ⟨q21, z22⟩ := and_e z21
  obtain ⟨q22, q23⟩ := and_e z22
  obtain ⟨o0, e_o0⟩ := exa_v q0
  have s_o0 : Sta s s.heap "com/example/rank_keeper/rankkeeper/board/Order" "DESC" "Lcom/example/rank_keeper/rankkeeper/board/Order;" (.ref o0) := Sta.start e_o0 (Or.inr ⟨(hw _ (List.mem_of_getElem? (i := 11) rfl)), (hw _ (List.mem_of_getElem? (i := 12) rfl))⟩)
  have x_o0 := Exa.start e_o0 q0
  obtain ⟨p0, e_p0⟩ := exa_v q1
  have s_p0 : Sta s s.heap "com/example/rank_keeper/rankkeeper/board/Operator" "SET" "Lcom/example/rank_keeper/rankkeeper/board/Operator;" (.ref p0) := Sta.start e_p0 (Or.inr ⟨(hw _ (List.mem_of_getElem? (i := 17) rfl)), (hw _ (List.mem_of_getElem? (i := 18) rfl))⟩)
  have x_p0 := Exa.start e_p0 q1
  obtain ⟨t0, e_t0⟩ := exa_v q2
  have s_t0 : Sta s s.heap "com/example/rank_keeper/rankkeeper/board/Ties" "SHARED" "Lcom/example/rank_keeper/rankkeeper/board/Ties;" (.ref t0) := Sta.start e_t0 (Or.inr ⟨(hw _ (List.mem_of_getElem? (i := 23) rfl)), (hw _ (List.mem_of_getElem? (i := 24) rfl))⟩)
  have x_t0 := Exa.start e_t0 q2
  obtain ⟨d0, e_d0⟩ := exa_v q3
  have s_d0 : Sta s s.heap "com/example/rank_keeper/rankkeeper/board/Period" "NONE" "Lcom/example/rank_keeper/rankkeeper/board/Period;" (.ref d0) := Sta.start e_d0 (Or.inr ⟨(hw _ (List.mem_of_getElem? (i := 29) rfl)), (hw _ (List.mem_of_getElem? (i := 30) rfl))⟩)
  have x_d0 := Exa.start e_d0 q3
  obtain ⟨p3, e_p3⟩ := exa_v q4
  have s_p3 : Sta s s.heap "com/example/rank_keeper/rankkeeper/board/Operator" "DECREMENT" "Lcom/example/rank_keeper/rankkeeper/board/Operator;" (.ref p3) := Sta.start e_p3 (Or.inr ⟨(hw _ (List.mem_of_getElem? (i := 17) rfl)), (hw _ (List.mem_of_getElem? (i := 79) rfl))⟩)
  have x_p3 := Exa.start e_p3 q4
  obtain ⟨t1, e_t1⟩ := exa_v q5
  have s_t1 : Sta s s.heap "com/example/rank_keeper/rankkeeper/board/Ties" "BY_TIME" "Lcom/example/rank_keeper/rankkeeper/board/Ties;" (.ref t1) := Sta.start e_t1 (Or.inr ⟨(hw _ (List.mem_of_getElem? (i := 23) rfl)), (hw _ (List.mem_of_getElem? (i := 81) rfl))⟩)
  have x_t1 := Exa.start e_t1 q5
  obtain ⟨p2, e_p2⟩ := exa_v q6
  have s_p2 : Sta s s.heap "com/example/rank_keeper/rankkeeper/board/Operator" "INCREMENT" "Lcom/example/rank_keeper/rankkeeper/board/Operator;" (.ref p2) := Sta.start e_p2 (Or.inr ⟨(hw _ (List.mem_of_getElem? (i := 17) rfl)), (hw _ (List.mem_of_getElem? (i := 83) rfl))⟩)
  have x_p2 := Exa.start e_p2 q6
  obtain ⟨d2, e_d2⟩ := exa_v q7
  have s_d2 : Sta s s.heap "com/example/rank_keeper/rankkeeper/board/Period" "WEEK" "Lcom/example/rank_keeper/rankkeeper/board/Period;" (.ref d2) := Sta.start e_d2 (Or.inr ⟨(hw _ (List.mem_of_getElem? (i := 29) rfl)), (hw _ (List.mem_of_getElem? (i := 85) rfl))⟩)
  have x_d2 := Exa.start e_d2 q7
  obtain ⟨o1, e_o1⟩ := exa_v q8
  have s_o1 : Sta s s.heap "com/example/rank_keeper/rankkeeper/board/Order" "ASC" "Lcom/example/rank_keeper/rankkeeper/board/Order;" (.ref o1) := Sta.start e_o1 (Or.inr ⟨(hw _ (List.mem_of_getElem? (i := 11) rfl)), (hw _ (List.mem_of_getElem? (i := 87) rfl))⟩)
  have x_o1 := Exa.start e_o1 q8
  obtain ⟨d1, e_d1⟩ := exa_v q11
  have s_d1 : Sta s s.heap "com/example/rank_keeper/rankkeeper/board/Period" "DAY" "Lcom/example/rank_keeper/rankkeeper/board/Period;" (.ref d1) := Sta.start e_d1 (Or.inr ⟨(hw _ (List.mem_of_getElem? (i := 29) rfl)), (hw _ (List.mem_of_getElem? (i := 89) rfl))⟩)
  have x_d1 := Exa.start e_d1 q11
  obtain ⟨d3, e_d3⟩ := exa_v q14
  have s_d3 : Sta s s.heap "com/example/rank_keeper/rankkeeper/board/Period" "MONTH" "Lcom/example/rank_keeper/rankkeeper/board/Period;" (.ref d3) := Sta.start e_d3 (Or.inr ⟨(hw _ (List.mem_of_getElem? (i := 29) rfl)), (hw _ (List.mem_of_getElem? (i := 91) rfl))⟩)
  have x_d3 := Exa.start e_d3 q14
  obtain ⟨p1, e_p1⟩ := exa_v q16
  have s_p1 : Sta s s.heap "com/example/rank_keeper/rankkeeper/board/Operator" "BEST" "Lcom/example/rank_keeper/rankkeeper/board/Operator;" (.ref p1) := Sta.start e_p1 (Or.inr ⟨(hw _ (List.mem_of_getElem? (i := 17) rfl)), (hw _ (List.mem_of_getElem? (i := 93) rfl))⟩)
  have x_p1 := Exa.start e_p1 q16
  have f_o0 := own_fldI e_o0 q9
  have f_o1 := own_fldI e_o1 q10
  have f_p0 := own_fldI e_p0 q12
  have f_p2 := own_fldI e_p2 q13
  have f_p3 := own_fldI e_p3 q15
  have f_p1 := own_fldI e_p1 q17
  have f_d0 := own_fldI e_d0 q18
  have f_d1 := own_fldI e_d1 q19
  have f_t0 := own_fldI e_t0 q20
  have f_t1 := own_fldI e_t1 q21
  have f_d3 := own_fldI e_d3 q22
  have f_d2 := own_fldI e_d2 q23
  have hW : own_W s o0 o1 p0 p1 p2 p3 t0 t1 d0 d1 d2 d3 := ⟨⟨s_o0, x_o0, f_o0⟩, ⟨s_o1, x_o1, f_o1⟩, ⟨s_p0, x_p0, f_p0⟩, ⟨s_p1, x_p1, f_p1⟩, ⟨s_p2, x_p2, f_p2⟩, ⟨s_p3, x_p3, f_p3⟩, ⟨s_t0, x_t0, f_t0⟩, ⟨s_t1, x_t1, f_t1⟩, ⟨s_d0, x_d0, f_d0⟩, ⟨s_d1, x_d1, f_d1⟩, ⟨s_d2, x_d2, f_d2⟩, ⟨s_d3, x_d3, f_d3⟩⟩
  obtain ⟨n, o, h1, h2, h3, _, L, rfl, ⟨rfl, N⟩, hq⟩ := rm_law l s _ hw tables_1 x0 y0 o0 o1 p0 p1 p2 p3 t0 t1 d0 d1 d2 d3 s.heap s.heap.size (Nat.le_refl _) (Old.start s) hW p e ha hc hk s m _ below hf ((Spec.applies_iff_loose hf).mp happ).1 ⟨rfl, State.Warmed39.refl s, rfl⟩ trivial
  refine ⟨n, _, h1, h2, h3, hpost _ _ _ _ _ _ ⟨Cond.after_iff.mpr rfl, Cond.after_iff.mpr (eq_i res_at (Term.int_eval (1)) rfl), trivial⟩ ⟨hq.1, hq.2.1, hq.2.2.1, (hq.2.2.2.sift fun y hy => Or.inr (N y hy)).mono (by decide) (by decide)⟩⟩
theorem main_1_1 : Claimed_1_1 := comes_1 fun _ _ _ _ _ _ h hF => ⟨h.1, hF⟩
theorem main_1_2 : Claimed_1_2 := comes_1 fun _ _ _ _ _ _ h hF => ⟨h.2.1, hF⟩
end Jvm.Pilot.@@N@@
namespace Jvm.Pilot.@@N@@
open Jvm Jvm.ClassFile Sem Op Lib Jvm.Free Jvm.Stand Jvm.Pilot.@@N@@.Jvm.D
/-! MADE BY PROGRAM (witnessworld.py) out of the Statement's table words and the real class files: 20 classes; the members and pool entries that the words name. The judged class is class 1, her method 6. -/
namespace start1
open Jvm.ClassFile
def u (s : String) : CpInfo := .utf8 (stringToUtf16 s)
/-- a pool by its gaps: so many unusable entries, then the entry; so many at the end -/
def gap : Nat → List CpInfo → List CpInfo
  | 0, r => r
  | n + 1, r => .unusable :: gap n r
def poolList (es : List (Nat × CpInfo)) (last : Nat) : List CpInfo := es.foldr (fun e r => gap e.1 (e.2 :: r)) (gap last [])
def pool (es : List (Nat × CpInfo)) (last : Nat) : Array CpInfo := ⟨poolList es last⟩
def fileOf (pool : Array CpInfo) (this : Nat) (attrs : Array Attribute := #[]) (ms : Array MethodInfo := #[]) (fl : Nat := 33) (sup : Nat := 0) (ifs : Array Nat := #[]) (fds : Array FieldInfo := #[]) : ClassFile where
  minorVersion := 0
  majorVersion := 65
  constantPool := pool
  accessFlags := fl
  thisClass := this
  superClass := sup
  interfaces := ifs
  fields := fds
  methods := ms
  attributes := attrs
def plain (name : String) (sup : Option ClassId) : Class where
  name := name
  kind := .ordinary
  loader := none
  accessFlags := 33
  super := sup
  interfaces := #[]
  cf := none
  fields := #[]
  methods := #[]
  instanceTypes := #[]
  staticTypes := #[]
  resolved := #[]
  callSites := []
  init := .initialized
  statics := none
  mirror := none

def pool0 : Array CpInfo := pool [(5, u "<init>"), (0, u "()V"), (1, .class_ 10), (1, u "java/lang/Object")] 113

def k0c0 : Code := { maxStack := 0, maxLocals := 1, code := object_method_1_code, exceptionTable := #[], attributes := #[] }
def k0m0 : Method := { name := "<init>", desc := "()V", sig := { parameters := [], returnType := none }, accessFlags := 1, code := some k0c0 }
/-- java/lang/Object -/
def k0 : Class := { plain "java/lang/Object" none with
  accessFlags := 33
  interfaces := #[]
  cf := some (fileOf pool0 8 #[] #[{ accessFlags := 1, nameIndex := 5, descriptorIndex := 6, attributes := #[] }] 33 0 #[] #[])
  fields := #[]
  methods := #[k0m0]
  instanceTypes := #[]
  staticTypes := #[]
  resolved := Array.replicate 124 none
  statics := none }

def pool1 : Array CpInfo := pool [(2, .class_ 4), (1, u "java/lang/Object"), (0, u "<init>"), (0, u "()V"), (0, .fieldref 8 9), (0, .class_ 10), (0, .nameAndType 11 12), (0, u "com/example/rank_keeper/rankkeeper/board/Order"), (0, u "DESC"), (0, u "Lcom/example/rank_keeper/rankkeeper/board/Order;"), (0, .fieldref 8 14), (0, .nameAndType 15 12), (0, u "ASC"), (0, .fieldref 17 18), (0, .class_ 19), (0, .nameAndType 20 21), (0, u "com/example/rank_keeper/rankkeeper/board/Operator"), (0, u "SET"), (0, u "Lcom/example/rank_keeper/rankkeeper/board/Operator;"), (0, .fieldref 17 23), (0, .nameAndType 24 21), (0, u "BEST"), (0, .fieldref 17 26), (0, .nameAndType 27 21), (0, u "INCREMENT"), (0, .fieldref 17 29), (0, .nameAndType 30 21), (0, u "DECREMENT"), (0, .fieldref 32 33), (0, .class_ 34), (0, .nameAndType 35 36), (0, u "com/example/rank_keeper/rankkeeper/board/Ties"), (0, u "SHARED"), (0, u "Lcom/example/rank_keeper/rankkeeper/board/Ties;"), (0, .fieldref 32 38), (0, .nameAndType 39 36), (0, u "BY_TIME"), (0, .fieldref 41 42), (0, .class_ 43), (0, .nameAndType 44 45), (0, u "com/example/rank_keeper/rankkeeper/board/Period"), (0, u "NONE"), (0, u "Lcom/example/rank_keeper/rankkeeper/board/Period;"), (0, .fieldref 41 47), (0, .nameAndType 48 45), (0, u "DAY"), (0, .fieldref 41 50), (0, .nameAndType 51 45), (0, u "WEEK"), (0, .fieldref 41 53), (0, .nameAndType 54 45), (0, u "MONTH"), (0, .class_ 56), (0, u "com/example/rank_keeper/rankkeeper/board/BoardRules"), (0, .methodref 58 59), (0, .class_ 60), (0, .nameAndType 61 62), (0, u "com/example/rank_keeper/rankkeeper/board/BoardRulesEqualsPinLaw"), (0, u "order"), (0, u "(I)Lcom/example/rank_keeper/rankkeeper/board/Order;"), (0, .methodref 58 64), (0, .nameAndType 65 66), (0, u "operator"), (0, u "(I)Lcom/example/rank_keeper/rankkeeper/board/Operator;"), (0, .methodref 58 68), (0, .nameAndType 69 70), (0, u "ties"), (0, u "(I)Lcom/example/rank_keeper/rankkeeper/board/Ties;"), (0, .methodref 58 72), (0, .nameAndType 73 74), (0, u "period"), (0, u "(I)Lcom/example/rank_keeper/rankkeeper/board/Period;"), (0, .methodref 55 76), (0, .nameAndType 5 77), (0, u "(Lcom/example/rank_keeper/rankkeeper/board/Order;Lcom/example/rank_keeper/rankkeeper/board/Operator;Lcom/example/rank_keeper/rankkeeper/board/Ties;Lcom/example/rank_keeper/rankkeeper/board/Period;)V"), (0, .methodref 58 79), (0, .nameAndType 80 81), (0, u "rules"), (0, u "(I)Lcom/example/rank_keeper/rankkeeper/board/BoardRules;"), (0, .methodref 55 83), (0, .nameAndType 84 85), (0, u "equals"), (0, u "(Ljava/lang/Object;)Z"), (3, u "law"), (0, u "(II)Z")] 2

def k1m0 : Method := { name := "<init>", desc := "()V", sig := { parameters := [], returnType := none }, accessFlags := 1, code := none }
def k1c1 : Code := { maxStack := 2, maxLocals := 1, code := method_2_code, exceptionTable := #[], attributes := #[] }
def k1m1 : Method := { name := "order", desc := "(I)Lcom/example/rank_keeper/rankkeeper/board/Order;", sig := { parameters := [.int], returnType := some (.object "com/example/rank_keeper/rankkeeper/board/Order") }, accessFlags := 10, code := some k1c1 }
def k1c2 : Code := { maxStack := 2, maxLocals := 2, code := method_3_code, exceptionTable := #[], attributes := #[] }
def k1m2 : Method := { name := "operator", desc := "(I)Lcom/example/rank_keeper/rankkeeper/board/Operator;", sig := { parameters := [.int], returnType := some (.object "com/example/rank_keeper/rankkeeper/board/Operator") }, accessFlags := 10, code := some k1c2 }
def k1c3 : Code := { maxStack := 2, maxLocals := 1, code := method_4_code, exceptionTable := #[], attributes := #[] }
def k1m3 : Method := { name := "ties", desc := "(I)Lcom/example/rank_keeper/rankkeeper/board/Ties;", sig := { parameters := [.int], returnType := some (.object "com/example/rank_keeper/rankkeeper/board/Ties") }, accessFlags := 10, code := some k1c3 }
def k1c4 : Code := { maxStack := 2, maxLocals := 2, code := method_5_code, exceptionTable := #[], attributes := #[] }
def k1m4 : Method := { name := "period", desc := "(I)Lcom/example/rank_keeper/rankkeeper/board/Period;", sig := { parameters := [.int], returnType := some (.object "com/example/rank_keeper/rankkeeper/board/Period") }, accessFlags := 10, code := some k1c4 }
def k1c5 : Code := { maxStack := 6, maxLocals := 1, code := method_6_code, exceptionTable := #[], attributes := #[] }
def k1m5 : Method := { name := "rules", desc := "(I)Lcom/example/rank_keeper/rankkeeper/board/BoardRules;", sig := { parameters := [.int], returnType := some (.object "com/example/rank_keeper/rankkeeper/board/BoardRules") }, accessFlags := 10, code := some k1c5 }
def k1c6 : Code := { maxStack := 2, maxLocals := 13, code := code, exceptionTable := #[], attributes := #[] }
def k1m6 : Method := { name := "law", desc := "(II)Z", sig := { parameters := [.int, .int], returnType := some .boolean }, accessFlags := 9, code := some k1c6 }
/-- com/example/rank_keeper/rankkeeper/board/BoardRulesEqualsPinLaw -/
def k1 : Class := { plain "com/example/rank_keeper/rankkeeper/board/BoardRulesEqualsPinLaw" (some 0) with
  accessFlags := 49
  interfaces := #[]
  cf := some (fileOf pool1 58 #[] #[{ accessFlags := 1, nameIndex := 5, descriptorIndex := 6, attributes := #[] }, { accessFlags := 10, nameIndex := 61, descriptorIndex := 62, attributes := #[] }, { accessFlags := 10, nameIndex := 65, descriptorIndex := 66, attributes := #[] }, { accessFlags := 10, nameIndex := 69, descriptorIndex := 70, attributes := #[] }, { accessFlags := 10, nameIndex := 73, descriptorIndex := 74, attributes := #[] }, { accessFlags := 10, nameIndex := 80, descriptorIndex := 81, attributes := #[] }, { accessFlags := 9, nameIndex := 89, descriptorIndex := 90, attributes := #[] }] 49 2 #[] #[])
  fields := #[]
  methods := #[k1m0, k1m1, k1m2, k1m3, k1m4, k1m5, k1m6]
  instanceTypes := #[]
  staticTypes := #[]
  resolved := Array.replicate 93 none
  statics := none }

def pool2 : Array CpInfo := pool [(1, .methodref 2 3), (0, .class_ 4), (0, .nameAndType 5 6), (0, u "java/lang/Object"), (0, u "<init>"), (0, u "()V"), (0, .string 8), (0, u "order"), (0, .methodref 10 11), (0, .class_ 12), (0, .nameAndType 13 14), (0, u "java/util/Objects"), (0, u "requireNonNull"), (0, u "(Ljava/lang/Object;Ljava/lang/String;)Ljava/lang/Object;"), (0, .class_ 16), (0, u "com/example/rank_keeper/rankkeeper/board/Order"), (0, .fieldref 18 19), (0, .class_ 20), (0, .nameAndType 8 21), (0, u "com/example/rank_keeper/rankkeeper/board/BoardRules"), (0, u "Lcom/example/rank_keeper/rankkeeper/board/Order;"), (0, .string 23), (0, u "operator"), (0, .class_ 25), (0, u "com/example/rank_keeper/rankkeeper/board/Operator"), (0, .fieldref 18 27), (0, .nameAndType 23 28), (0, u "Lcom/example/rank_keeper/rankkeeper/board/Operator;"), (0, .string 30), (0, u "ties"), (0, .class_ 32), (0, u "com/example/rank_keeper/rankkeeper/board/Ties"), (0, .fieldref 18 34), (0, .nameAndType 30 35), (0, u "Lcom/example/rank_keeper/rankkeeper/board/Ties;"), (0, .string 37), (0, u "period"), (0, .class_ 39), (0, u "com/example/rank_keeper/rankkeeper/board/Period"), (0, .fieldref 18 41), (0, .nameAndType 37 42), (0, u "Lcom/example/rank_keeper/rankkeeper/board/Period;"), (2, u "(Lcom/example/rank_keeper/rankkeeper/board/Order;Lcom/example/rank_keeper/rankkeeper/board/Operator;Lcom/example/rank_keeper/rankkeeper/board/Ties;Lcom/example/rank_keeper/rankkeeper/board/Period;)V"), (28, u "DEFAULTS"), (0, u "Lcom/example/rank_keeper/rankkeeper/board/BoardRules;"), (14, u "equals"), (0, u "(Ljava/lang/Object;)Z")] 23

def k2c0 : Code := { maxStack := 3, maxLocals := 5, code := prog_6_method_1_code, exceptionTable := #[], attributes := #[] }
def k2m0 : Method := { name := "<init>", desc := "(Lcom/example/rank_keeper/rankkeeper/board/Order;Lcom/example/rank_keeper/rankkeeper/board/Operator;Lcom/example/rank_keeper/rankkeeper/board/Ties;Lcom/example/rank_keeper/rankkeeper/board/Period;)V", sig := { parameters := [(.object "com/example/rank_keeper/rankkeeper/board/Order"), (.object "com/example/rank_keeper/rankkeeper/board/Operator"), (.object "com/example/rank_keeper/rankkeeper/board/Ties"), (.object "com/example/rank_keeper/rankkeeper/board/Period")], returnType := none }, accessFlags := 1, code := some k2c0 }
def k2c1 : Code := { maxStack := 2, maxLocals := 3, code := prog_6_method_10_code, exceptionTable := #[], attributes := #[] }
def k2m1 : Method := { name := "equals", desc := "(Ljava/lang/Object;)Z", sig := { parameters := [(.object "java/lang/Object")], returnType := some .boolean }, accessFlags := 1, code := some k2c1 }
/-- com/example/rank_keeper/rankkeeper/board/BoardRules -/
def k2 : Class := { plain "com/example/rank_keeper/rankkeeper/board/BoardRules" (some 0) with
  accessFlags := 49
  interfaces := #[]
  cf := some (fileOf pool2 18 #[] #[{ accessFlags := 1, nameIndex := 5, descriptorIndex := 45, attributes := #[] }, { accessFlags := 1, nameIndex := 90, descriptorIndex := 91, attributes := #[] }] 49 2 #[] #[{ accessFlags := 25, nameIndex := 74, descriptorIndex := 75, attributes := #[] }, { accessFlags := 18, nameIndex := 8, descriptorIndex := 21, attributes := #[] }, { accessFlags := 18, nameIndex := 23, descriptorIndex := 28, attributes := #[] }, { accessFlags := 18, nameIndex := 30, descriptorIndex := 35, attributes := #[] }, { accessFlags := 18, nameIndex := 37, descriptorIndex := 42, attributes := #[] }])
  fields := #[{ name := "DEFAULTS", type := (.object "com/example/rank_keeper/rankkeeper/board/BoardRules"), accessFlags := 25, slot := 0, constantValue := 0 }, { name := "order", type := (.object "com/example/rank_keeper/rankkeeper/board/Order"), accessFlags := 18, slot := 0, constantValue := 0 }, { name := "operator", type := (.object "com/example/rank_keeper/rankkeeper/board/Operator"), accessFlags := 18, slot := 1, constantValue := 0 }, { name := "ties", type := (.object "com/example/rank_keeper/rankkeeper/board/Ties"), accessFlags := 18, slot := 2, constantValue := 0 }, { name := "period", type := (.object "com/example/rank_keeper/rankkeeper/board/Period"), accessFlags := 18, slot := 3, constantValue := 0 }]
  methods := #[k2m0, k2m1]
  instanceTypes := #[(.object "com/example/rank_keeper/rankkeeper/board/Order"), (.object "com/example/rank_keeper/rankkeeper/board/Operator"), (.object "com/example/rank_keeper/rankkeeper/board/Ties"), (.object "com/example/rank_keeper/rankkeeper/board/Period")]
  staticTypes := #[(.object "com/example/rank_keeper/rankkeeper/board/BoardRules")]
  resolved := Array.replicate 115 none
  statics := none }

def pool3 : Array CpInfo := pool [(1, .class_ 2), (0, u "java/lang/constant/Constable"), (0, .class_ 4), (0, u "java/lang/Object")] 6

/-- java/lang/constant/Constable -/
def k3 : Class := { plain "java/lang/constant/Constable" (some 0) with
  accessFlags := 1537
  interfaces := #[]
  cf := some (fileOf pool3 1 #[] #[] 1537 3 #[] #[])
  fields := #[]
  methods := #[]
  instanceTypes := #[]
  staticTypes := #[]
  resolved := Array.replicate 11 none
  statics := none }

def pool4 : Array CpInfo := pool [(1, .class_ 2), (0, u "java/lang/Comparable"), (0, .class_ 4), (0, u "java/lang/Object")] 7

/-- java/lang/Comparable -/
def k4 : Class := { plain "java/lang/Comparable" (some 0) with
  accessFlags := 1537
  interfaces := #[]
  cf := some (fileOf pool4 1 #[] #[] 1537 3 #[] #[])
  fields := #[]
  methods := #[]
  instanceTypes := #[]
  staticTypes := #[]
  resolved := Array.replicate 12 none
  statics := none }

def pool5 : Array CpInfo := pool [(1, .class_ 2), (0, u "java/io/Serializable"), (0, .class_ 4), (0, u "java/lang/Object")] 2

/-- java/io/Serializable -/
def k5 : Class := { plain "java/io/Serializable" (some 0) with
  accessFlags := 1537
  interfaces := #[]
  cf := some (fileOf pool5 1 #[] #[] 1537 3 #[] #[])
  fields := #[]
  methods := #[]
  instanceTypes := #[]
  staticTypes := #[]
  resolved := Array.replicate 7 none
  statics := none }

def pool6 : Array CpInfo := pool [(2, .class_ 4), (1, u "java/lang/Enum"), (0, u "name"), (0, u "Ljava/lang/String;"), (2, u "ordinal"), (0, u "I"), (1, .class_ 14), (1, u "java/lang/Object"), (4, u "hash"), (86, .class_ 108), (1, u "java/lang/Enum$EnumDesc"), (2, .class_ 112), (0, u "java/lang/constant/Constable"), (0, .class_ 114), (0, u "java/lang/Comparable"), (0, .class_ 116), (0, u "java/io/Serializable")] 87

/-- java/lang/Enum -/
def k6 : Class := { plain "java/lang/Enum" (some 0) with
  accessFlags := 1057
  interfaces := #[3, 4, 5]
  cf := some (fileOf pool6 2 #[.nestMembers #[106]] #[] 1057 12 #[111, 113, 115] #[{ accessFlags := 18, nameIndex := 5, descriptorIndex := 6, attributes := #[] }, { accessFlags := 18, nameIndex := 9, descriptorIndex := 10, attributes := #[] }, { accessFlags := 2, nameIndex := 19, descriptorIndex := 10, attributes := #[] }])
  fields := #[{ name := "name", type := (.object "java/lang/String"), accessFlags := 18, slot := 0, constantValue := 0 }, { name := "ordinal", type := .int, accessFlags := 18, slot := 1, constantValue := 0 }, { name := "hash", type := .int, accessFlags := 2, slot := 2, constantValue := 0 }]
  methods := #[]
  instanceTypes := #[(.object "java/lang/String"), .int, .int]
  staticTypes := #[]
  resolved := Array.replicate 204 none
  statics := none }

def pool7 : Array CpInfo := pool [(1, .class_ 2), (0, u "com/example/rank_keeper/rankkeeper/board/Order"), (2, u "DESC"), (0, u "Lcom/example/rank_keeper/rankkeeper/board/Order;"), (2, u "ASC"), (2, u "$VALUES"), (0, u "[Lcom/example/rank_keeper/rankkeeper/board/Order;"), (6, .class_ 22), (1, u "java/lang/Enum")] 46

/-- com/example/rank_keeper/rankkeeper/board/Order -/
def k7 : Class := { plain "com/example/rank_keeper/rankkeeper/board/Order" (some 6) with
  accessFlags := 16433
  interfaces := #[]
  cf := some (fileOf pool7 1 #[] #[] 16433 20 #[] #[{ accessFlags := 16409, nameIndex := 5, descriptorIndex := 6, attributes := #[] }, { accessFlags := 16409, nameIndex := 9, descriptorIndex := 6, attributes := #[] }, { accessFlags := 4122, nameIndex := 12, descriptorIndex := 13, attributes := #[] }])
  fields := #[{ name := "DESC", type := (.object "com/example/rank_keeper/rankkeeper/board/Order"), accessFlags := 16409, slot := 0, constantValue := 0 }, { name := "ASC", type := (.object "com/example/rank_keeper/rankkeeper/board/Order"), accessFlags := 16409, slot := 1, constantValue := 0 }, { name := "$VALUES", type := (.array (.object "com/example/rank_keeper/rankkeeper/board/Order")), accessFlags := 4122, slot := 2, constantValue := 0 }]
  methods := #[]
  instanceTypes := #[(.object "java/lang/String"), .int, .int]
  staticTypes := #[(.object "com/example/rank_keeper/rankkeeper/board/Order"), (.object "com/example/rank_keeper/rankkeeper/board/Order"), (.array (.object "com/example/rank_keeper/rankkeeper/board/Order"))]
  resolved := Array.replicate 69 none
  statics := some 0 }

def pool8 : Array CpInfo := pool [(1, .class_ 2), (0, u "com/example/rank_keeper/rankkeeper/board/Operator"), (2, u "SET"), (0, u "Lcom/example/rank_keeper/rankkeeper/board/Operator;"), (2, u "BEST"), (2, u "INCREMENT"), (2, u "DECREMENT"), (2, u "$VALUES"), (0, u "[Lcom/example/rank_keeper/rankkeeper/board/Operator;"), (6, .class_ 28), (1, u "java/lang/Enum")] 73

/-- com/example/rank_keeper/rankkeeper/board/Operator -/
def k8 : Class := { plain "com/example/rank_keeper/rankkeeper/board/Operator" (some 6) with
  accessFlags := 16433
  interfaces := #[]
  cf := some (fileOf pool8 1 #[] #[] 16433 26 #[] #[{ accessFlags := 16409, nameIndex := 5, descriptorIndex := 6, attributes := #[] }, { accessFlags := 16409, nameIndex := 9, descriptorIndex := 6, attributes := #[] }, { accessFlags := 16409, nameIndex := 12, descriptorIndex := 6, attributes := #[] }, { accessFlags := 16409, nameIndex := 15, descriptorIndex := 6, attributes := #[] }, { accessFlags := 4122, nameIndex := 18, descriptorIndex := 19, attributes := #[] }])
  fields := #[{ name := "SET", type := (.object "com/example/rank_keeper/rankkeeper/board/Operator"), accessFlags := 16409, slot := 0, constantValue := 0 }, { name := "BEST", type := (.object "com/example/rank_keeper/rankkeeper/board/Operator"), accessFlags := 16409, slot := 1, constantValue := 0 }, { name := "INCREMENT", type := (.object "com/example/rank_keeper/rankkeeper/board/Operator"), accessFlags := 16409, slot := 2, constantValue := 0 }, { name := "DECREMENT", type := (.object "com/example/rank_keeper/rankkeeper/board/Operator"), accessFlags := 16409, slot := 3, constantValue := 0 }, { name := "$VALUES", type := (.array (.object "com/example/rank_keeper/rankkeeper/board/Operator")), accessFlags := 4122, slot := 4, constantValue := 0 }]
  methods := #[]
  instanceTypes := #[(.object "java/lang/String"), .int, .int]
  staticTypes := #[(.object "com/example/rank_keeper/rankkeeper/board/Operator"), (.object "com/example/rank_keeper/rankkeeper/board/Operator"), (.object "com/example/rank_keeper/rankkeeper/board/Operator"), (.object "com/example/rank_keeper/rankkeeper/board/Operator"), (.array (.object "com/example/rank_keeper/rankkeeper/board/Operator"))]
  resolved := Array.replicate 102 none
  statics := some 1 }

def pool9 : Array CpInfo := pool [(1, .class_ 2), (0, u "com/example/rank_keeper/rankkeeper/board/Ties"), (2, u "SHARED"), (0, u "Lcom/example/rank_keeper/rankkeeper/board/Ties;"), (2, u "BY_TIME"), (2, u "$VALUES"), (0, u "[Lcom/example/rank_keeper/rankkeeper/board/Ties;"), (6, .class_ 22), (1, u "java/lang/Enum")] 24

/-- com/example/rank_keeper/rankkeeper/board/Ties -/
def k9 : Class := { plain "com/example/rank_keeper/rankkeeper/board/Ties" (some 6) with
  accessFlags := 16433
  interfaces := #[]
  cf := some (fileOf pool9 1 #[] #[] 16433 20 #[] #[{ accessFlags := 16409, nameIndex := 5, descriptorIndex := 6, attributes := #[] }, { accessFlags := 16409, nameIndex := 9, descriptorIndex := 6, attributes := #[] }, { accessFlags := 4122, nameIndex := 12, descriptorIndex := 13, attributes := #[] }])
  fields := #[{ name := "SHARED", type := (.object "com/example/rank_keeper/rankkeeper/board/Ties"), accessFlags := 16409, slot := 0, constantValue := 0 }, { name := "BY_TIME", type := (.object "com/example/rank_keeper/rankkeeper/board/Ties"), accessFlags := 16409, slot := 1, constantValue := 0 }, { name := "$VALUES", type := (.array (.object "com/example/rank_keeper/rankkeeper/board/Ties")), accessFlags := 4122, slot := 2, constantValue := 0 }]
  methods := #[]
  instanceTypes := #[(.object "java/lang/String"), .int, .int]
  staticTypes := #[(.object "com/example/rank_keeper/rankkeeper/board/Ties"), (.object "com/example/rank_keeper/rankkeeper/board/Ties"), (.array (.object "com/example/rank_keeper/rankkeeper/board/Ties"))]
  resolved := Array.replicate 47 none
  statics := some 2 }

def pool10 : Array CpInfo := pool [(1, .class_ 2), (0, u "com/example/rank_keeper/rankkeeper/board/Period"), (2, u "NONE"), (0, u "Lcom/example/rank_keeper/rankkeeper/board/Period;"), (2, u "DAY"), (2, u "WEEK"), (2, u "MONTH"), (2, u "$VALUES"), (0, u "[Lcom/example/rank_keeper/rankkeeper/board/Period;"), (6, .class_ 28), (1, u "java/lang/Enum"), (8, u "form"), (0, u "Ljava/lang/String;")] 188

/-- com/example/rank_keeper/rankkeeper/board/Period -/
def k10 : Class := { plain "com/example/rank_keeper/rankkeeper/board/Period" (some 6) with
  accessFlags := 16433
  interfaces := #[]
  cf := some (fileOf pool10 1 #[] #[] 16433 26 #[] #[{ accessFlags := 16409, nameIndex := 5, descriptorIndex := 6, attributes := #[] }, { accessFlags := 16409, nameIndex := 9, descriptorIndex := 6, attributes := #[] }, { accessFlags := 16409, nameIndex := 12, descriptorIndex := 6, attributes := #[] }, { accessFlags := 16409, nameIndex := 15, descriptorIndex := 6, attributes := #[] }, { accessFlags := 18, nameIndex := 37, descriptorIndex := 38, attributes := #[] }, { accessFlags := 4122, nameIndex := 18, descriptorIndex := 19, attributes := #[] }])
  fields := #[{ name := "NONE", type := (.object "com/example/rank_keeper/rankkeeper/board/Period"), accessFlags := 16409, slot := 0, constantValue := 0 }, { name := "DAY", type := (.object "com/example/rank_keeper/rankkeeper/board/Period"), accessFlags := 16409, slot := 1, constantValue := 0 }, { name := "WEEK", type := (.object "com/example/rank_keeper/rankkeeper/board/Period"), accessFlags := 16409, slot := 2, constantValue := 0 }, { name := "MONTH", type := (.object "com/example/rank_keeper/rankkeeper/board/Period"), accessFlags := 16409, slot := 3, constantValue := 0 }, { name := "form", type := (.object "java/lang/String"), accessFlags := 18, slot := 3, constantValue := 0 }, { name := "$VALUES", type := (.array (.object "com/example/rank_keeper/rankkeeper/board/Period")), accessFlags := 4122, slot := 4, constantValue := 0 }]
  methods := #[]
  instanceTypes := #[(.object "java/lang/String"), .int, .int, (.object "java/lang/String")]
  staticTypes := #[(.object "com/example/rank_keeper/rankkeeper/board/Period"), (.object "com/example/rank_keeper/rankkeeper/board/Period"), (.object "com/example/rank_keeper/rankkeeper/board/Period"), (.object "com/example/rank_keeper/rankkeeper/board/Period"), (.array (.object "com/example/rank_keeper/rankkeeper/board/Period"))]
  resolved := Array.replicate 227 none
  statics := some 3 }

def pool11 : Array CpInfo := pool [(2, .class_ 4), (1, u "java/lang/CharSequence"), (42, .class_ 48), (0, u "java/lang/CharSequence$1CodePointIterator"), (10, .class_ 60), (0, u "java/lang/CharSequence$1CharIterator"), (5, .class_ 67), (0, u "java/lang/Object")] 63

/-- java/lang/CharSequence -/
def k11 : Class := { plain "java/lang/CharSequence" (some 0) with
  accessFlags := 1537
  interfaces := #[]
  cf := some (fileOf pool11 2 #[.nestMembers #[47, 59]] #[] 1537 66 #[] #[])
  fields := #[]
  methods := #[]
  instanceTypes := #[]
  staticTypes := #[]
  resolved := Array.replicate 131 none
  statics := none }

def pool12 : Array CpInfo := pool [(1, .class_ 2), (0, u "java/lang/constant/ConstantDesc"), (0, .class_ 4), (0, u "java/lang/Object")] 32

/-- java/lang/constant/ConstantDesc -/
def k12 : Class := { plain "java/lang/constant/ConstantDesc" (some 0) with
  accessFlags := 1537
  interfaces := #[]
  cf := some (fileOf pool12 1 #[] #[] 1537 3 #[] #[])
  fields := #[]
  methods := #[]
  instanceTypes := #[]
  staticTypes := #[]
  resolved := Array.replicate 37 none
  statics := none }

def pool13 : Array CpInfo := pool [(2, .class_ 4), (1, u "java/lang/Object"), (0, u "<init>"), (0, u "()V"), (3, .class_ 12), (1, u "java/lang/String"), (0, u "value"), (0, u "[B"), (2, u "coder"), (0, u "B"), (2, u "hash"), (0, u "I"), (2, u "hashIsZero"), (0, u "Z"), (13, u "COMPACT_STRINGS"), (534, .class_ 576), (0, u "java/lang/CharSequence"), (22, u "CASE_INSENSITIVE_ORDER"), (0, u "Ljava/util/Comparator;"), (500, u "serialPersistentFields"), (0, u "[Ljava/io/ObjectStreamField;"), (0, .class_ 1104), (0, u "java/lang/String$CaseInsensitiveComparator"), (1, .class_ 1107), (0, u "java/io/Serializable"), (0, .class_ 1109), (0, u "java/lang/Comparable"), (0, .class_ 1111), (0, u "java/lang/constant/Constable"), (0, .class_ 1113), (0, u "java/lang/constant/ConstantDesc"), (2, u "serialVersionUID"), (0, u "J"), (3, u "REPL"), (0, u "C"), (2, u "LATIN1"), (1, u "UTF16")] 323

def k13m0 : Method := { name := "<init>", desc := "()V", sig := { parameters := [], returnType := none }, accessFlags := 1, code := none }
/-- java/lang/String -/
def k13 : Class := { plain "java/lang/String" (some 0) with
  accessFlags := 49
  interfaces := #[5, 4, 11, 3, 12]
  cf := some (fileOf pool13 10 #[.nestMembers #[1103]] #[{ accessFlags := 1, nameIndex := 5, descriptorIndex := 6, attributes := #[] }] 49 2 #[1106, 1108, 575, 1110, 1112] #[{ accessFlags := 18, nameIndex := 13, descriptorIndex := 14, attributes := #[] }, { accessFlags := 18, nameIndex := 17, descriptorIndex := 18, attributes := #[] }, { accessFlags := 2, nameIndex := 21, descriptorIndex := 22, attributes := #[] }, { accessFlags := 2, nameIndex := 25, descriptorIndex := 26, attributes := #[] }, { accessFlags := 26, nameIndex := 1116, descriptorIndex := 1117, attributes := #[] }, { accessFlags := 24, nameIndex := 40, descriptorIndex := 26, attributes := #[] }, { accessFlags := 26, nameIndex := 1101, descriptorIndex := 1102, attributes := #[] }, { accessFlags := 26, nameIndex := 1121, descriptorIndex := 1122, attributes := #[] }, { accessFlags := 25, nameIndex := 599, descriptorIndex := 600, attributes := #[] }, { accessFlags := 24, nameIndex := 1125, descriptorIndex := 18, attributes := #[] }, { accessFlags := 24, nameIndex := 1127, descriptorIndex := 18, attributes := #[] }])
  fields := #[{ name := "value", type := (.array .byte), accessFlags := 18, slot := 0, constantValue := 0 }, { name := "coder", type := .byte, accessFlags := 18, slot := 1, constantValue := 0 }, { name := "hash", type := .int, accessFlags := 2, slot := 2, constantValue := 0 }, { name := "hashIsZero", type := .boolean, accessFlags := 2, slot := 3, constantValue := 0 }, { name := "serialVersionUID", type := .long, accessFlags := 26, slot := 0, constantValue := 0 }, { name := "COMPACT_STRINGS", type := .boolean, accessFlags := 24, slot := 1, constantValue := 0 }, { name := "serialPersistentFields", type := (.array (.object "java/io/ObjectStreamField")), accessFlags := 26, slot := 2, constantValue := 0 }, { name := "REPL", type := .char, accessFlags := 26, slot := 3, constantValue := 0 }, { name := "CASE_INSENSITIVE_ORDER", type := (.object "java/util/Comparator"), accessFlags := 25, slot := 4, constantValue := 0 }, { name := "LATIN1", type := .byte, accessFlags := 24, slot := 5, constantValue := 0 }, { name := "UTF16", type := .byte, accessFlags := 24, slot := 6, constantValue := 0 }]
  methods := #[k13m0]
  instanceTypes := #[(.array .byte), .byte, .int, .boolean]
  staticTypes := #[.long, .boolean, (.array (.object "java/io/ObjectStreamField")), .char, (.object "java/util/Comparator"), .byte, .byte]
  resolved := Array.replicate 1451 none
  statics := none }

def pool14 : Array CpInfo := pool [(2, .class_ 4), (1, u "java/lang/Object"), (0, u "<init>"), (0, u "()V"), (35, .class_ 44), (1, u "java/util/Objects"), (0, u "requireNonNull"), (48, u "(Ljava/lang/Object;Ljava/lang/String;)Ljava/lang/Object;")] 89

def k14m0 : Method := { name := "<init>", desc := "()V", sig := { parameters := [], returnType := none }, accessFlags := 2, code := none }
def k14c1 : Code := { maxStack := 3, maxLocals := 2, code := jdk_31_method_11_code, exceptionTable := #[], attributes := #[] }
def k14m1 : Method := { name := "requireNonNull", desc := "(Ljava/lang/Object;Ljava/lang/String;)Ljava/lang/Object;", sig := { parameters := [(.object "java/lang/Object"), (.object "java/lang/String")], returnType := some (.object "java/lang/Object") }, accessFlags := 9, code := some k14c1 }
/-- java/util/Objects -/
def k14 : Class := { plain "java/util/Objects" (some 0) with
  accessFlags := 49
  interfaces := #[]
  cf := some (fileOf pool14 42 #[] #[{ accessFlags := 2, nameIndex := 5, descriptorIndex := 6, attributes := #[] }, { accessFlags := 9, nameIndex := 45, descriptorIndex := 94, attributes := #[] }] 49 2 #[] #[])
  fields := #[]
  methods := #[k14m0, k14m1]
  instanceTypes := #[]
  staticTypes := #[]
  resolved := Array.replicate 184 none
  statics := none }

def pool15 : Array CpInfo := pool [(1, u "java/lang/Cloneable"), (0, .class_ 1), (0, u "java/lang/Object"), (0, .class_ 3)] 3

/-- java/lang/Cloneable -/
def k15 : Class := { plain "java/lang/Cloneable" (some 0) with
  accessFlags := 1537
  interfaces := #[]
  cf := some (fileOf pool15 2 #[] #[] 1537 4 #[] #[])
  fields := #[]
  methods := #[]
  instanceTypes := #[]
  staticTypes := #[]
  resolved := Array.replicate 8 none
  statics := none }

/-- the primitive byte -/
def k16 : Class := { plain "byte" none with kind := .primitive 'B', accessFlags := 0x411 }
/-- [B -/
def k17 : Class := { plain "[B" (some 0) with kind := .array 16 .byte, interfaces := #[15, 5], accessFlags := 1041 }

/-- the primitive int -/
def k18 : Class := { plain "int" none with kind := .primitive 'I', accessFlags := 0x411 }
/-- [I -/
def k19 : Class := { plain "[I" (some 0) with kind := .array 18 .int, interfaces := #[15, 5], accessFlags := 1041 }

def heap : Heap := #[{ cls := 7, slots := #[.ref 4, .ref 5, .null], vm := .statics 7 },
  { cls := 8, slots := #[.ref 6, .ref 7, .ref 8, .ref 9, .null], vm := .statics 8 },
  { cls := 9, slots := #[.ref 10, .ref 11, .null], vm := .statics 9 },
  { cls := 10, slots := #[.ref 12, .ref 13, .ref 14, .ref 15, .null], vm := .statics 10 },
  { cls := 7, slots := #[.null, .int 0, .int 0], vm := .none },
  { cls := 7, slots := #[.null, .int 1, .int 0], vm := .none },
  { cls := 8, slots := #[.null, .int 0, .int 0], vm := .none },
  { cls := 8, slots := #[.null, .int 1, .int 0], vm := .none },
  { cls := 8, slots := #[.null, .int 2, .int 0], vm := .none },
  { cls := 8, slots := #[.null, .int 3, .int 0], vm := .none },
  { cls := 9, slots := #[.null, .int 0, .int 0], vm := .none },
  { cls := 9, slots := #[.null, .int 1, .int 0], vm := .none },
  { cls := 10, slots := #[.null, .int 0, .int 0, .null], vm := .none },
  { cls := 10, slots := #[.null, .int 1, .int 0, .null], vm := .none },
  { cls := 10, slots := #[.null, .int 2, .int 0, .null], vm := .none },
  { cls := 10, slots := #[.null, .int 3, .int 0, .null], vm := .none }]
def classes : Array Class := #[k0, k1, k2, k3, k4, k5, k6, k7, k8, k9, k10, k11, k12, k13, k14, k15, k16, k17, k18, k19]
def interned : List (Array UInt16 × Addr) := []
def slotsUsed : Nat := 56
def theMethod : MethodId := ⟨1, 6⟩
def args0 : Array Value := #[.int 5, .int 77]
def aboutOver (below : List Frame) : State where
  vm := { classes := classes, interned := interned.toArray }
  heap := heap
  slotsUsed := slotsUsed
  threads := #[{ frames := .invoking theMethod args0 :: below }]
def below0 : List Frame := [.native { method := ⟨0, 0⟩, args := #[] }]
def about1 : State := aboutOver below0
def p0 : Program := .bare "" "" ""
def e0 : Env := launch0.env 0 0 0
theorem w_frames : about1.frames = Frame.invoking theMethod args0 :: below0 := rfl
set_option maxRecDepth 65536 in
theorem w_args : argsFit about1.vm theMethod args0 = true := by decide +kernel
set_option maxRecDepth 65536 in
theorem w_heap : heapFits about1 = true := by decide +kernel
set_option maxRecDepth 65536 in
theorem w_runnable : about1.curStatus? = some .runnable := by decide +kernel
set_option maxRecDepth 65536 in
theorem w_alone : about1.alone = true := by decide +kernel
set_option maxRecDepth 65536 in
theorem w_named : about1.methodNamed? x = some theMethod := by decide +kernel
set_option maxRecDepth 65536 in
theorem w_hears : about1.hears theMethod below0 = true := by decide +kernel
set_option maxRecDepth 65536 in
theorem w_ripe : about1.ripe theMethod args0 below0 = true := by decide +kernel
theorem w_running : about1.status = .running := rfl
set_option maxRecDepth 65536 in
theorem w_room : about1.hasRoom e0.platform room_1 = true :=
  launch0.hasRoom_least _ room_1 (by decide +kernel) (by decide +kernel) (by decide +kernel) (by decide +kernel) (by decide +kernel) (by decide +kernel)
theorem allAtoms_all (ts : List Jvm.Cond) (a : Array Jvm.Value) (st : Jvm.State) : (allAtoms ts).before a st = ts.all (fun c => c.before a st) := by
  induction ts with
  | nil => rfl
  | cons c t ih =>
    show (Jvm.Cond.and c (allAtoms t)).before a st = _
    rw [Jvm.Cond.before_and, ih, List.all_cons]
def words1 : List Jvm.Cond := Jvm.Cond.code x code maxLocals ret :: tables_1
/-- a 'code' word, met by the world's own term for the bytes: nothing is compared byte by byte -/
theorem code_word {y : MethodName} {bytes : ByteArray} {mx : Nat} {rt : Option FieldType} {a : Array Value} {s : State} {m : MethodId} {meth : Method} {c : Code} (h1 : s.methodNamed? y = some m) (h2 : s.vm.method? m = some meth) (h3 : meth.code = some c) (h4 : c.code = bytes)
    (h5 : (c.maxLocals == mx && c.exceptionTable.isEmpty && decide (c.maxStack ≤ mostOperands) && decide (meth.sig.returnType = rt) && !meth.locks && decide (parseMethodDescriptor y.desc = some meth.sig)) = true) : (Jvm.Cond.code y bytes mx rt).before a s = true := by
  simp only [Bool.and_eq_true, beq_iff_eq, Bool.not_eq_true', decide_eq_true_eq] at h5
  obtain ⟨⟨⟨⟨⟨g1, g2⟩, g3⟩, g4⟩, g5⟩, g6⟩ := h5
  simp [Cond.before, Cond.holds, Cond.value, h1, h2, h3, h4, g1, g2, g3, g4, g5, g6]
def isCode : Jvm.Cond → Bool
  | .code _ _ _ _ => true
  | _ => false
theorem all_split {L : List Jvm.Cond} {P : Jvm.Cond → Bool} (h1 : L.all (fun c => isCode c || P c) = true) (h2 : ∀ c ∈ L.filter isCode, P c = true) : L.all P = true := by
  refine List.all_eq_true.mpr fun c hc => ?_
  have h := List.all_eq_true.mp h1 c hc
  rcases Bool.eq_false_or_eq_true (isCode c) with hi | hi
  · exact h2 c (List.mem_filter.mpr ⟨hc, hi⟩)
  · simpa [hi] using h
set_option maxRecDepth 65536 in
theorem w_c0 : (Jvm.Cond.code x code maxLocals ret).before args0 about1 = true := code_word (m := ⟨1, 6⟩) (meth := k1m6) (c := k1c6) (by decide +kernel) rfl rfl rfl (by decide +kernel)
set_option maxRecDepth 65536 in
theorem w_c1 : (Jvm.Cond.code ({ cls := "com/example/rank_keeper/rankkeeper/board/BoardRulesEqualsPinLaw", name := "rules", desc := "(I)Lcom/example/rank_keeper/rankkeeper/board/BoardRules;" } : Jvm.MethodName) method_6_code (1 : Nat) (Option.some (Jvm.ClassFile.FieldType.object "com/example/rank_keeper/rankkeeper/board/BoardRules"))).before args0 about1 = true := code_word (m := ⟨1, 5⟩) (meth := k1m5) (c := k1c5) (by decide +kernel) rfl rfl rfl (by decide +kernel)
set_option maxRecDepth 65536 in
theorem w_c2 : (Jvm.Cond.code ({ cls := "com/example/rank_keeper/rankkeeper/board/BoardRulesEqualsPinLaw", name := "order", desc := "(I)Lcom/example/rank_keeper/rankkeeper/board/Order;" } : Jvm.MethodName) method_2_code (1 : Nat) (Option.some (Jvm.ClassFile.FieldType.object "com/example/rank_keeper/rankkeeper/board/Order"))).before args0 about1 = true := code_word (m := ⟨1, 1⟩) (meth := k1m1) (c := k1c1) (by decide +kernel) rfl rfl rfl (by decide +kernel)
set_option maxRecDepth 65536 in
theorem w_c3 : (Jvm.Cond.code ({ cls := "com/example/rank_keeper/rankkeeper/board/BoardRulesEqualsPinLaw", name := "operator", desc := "(I)Lcom/example/rank_keeper/rankkeeper/board/Operator;" } : Jvm.MethodName) method_3_code (2 : Nat) (Option.some (Jvm.ClassFile.FieldType.object "com/example/rank_keeper/rankkeeper/board/Operator"))).before args0 about1 = true := code_word (m := ⟨1, 2⟩) (meth := k1m2) (c := k1c2) (by decide +kernel) rfl rfl rfl (by decide +kernel)
set_option maxRecDepth 65536 in
theorem w_c4 : (Jvm.Cond.code ({ cls := "com/example/rank_keeper/rankkeeper/board/BoardRulesEqualsPinLaw", name := "ties", desc := "(I)Lcom/example/rank_keeper/rankkeeper/board/Ties;" } : Jvm.MethodName) method_4_code (1 : Nat) (Option.some (Jvm.ClassFile.FieldType.object "com/example/rank_keeper/rankkeeper/board/Ties"))).before args0 about1 = true := code_word (m := ⟨1, 3⟩) (meth := k1m3) (c := k1c3) (by decide +kernel) rfl rfl rfl (by decide +kernel)
set_option maxRecDepth 65536 in
theorem w_c5 : (Jvm.Cond.code ({ cls := "com/example/rank_keeper/rankkeeper/board/BoardRulesEqualsPinLaw", name := "period", desc := "(I)Lcom/example/rank_keeper/rankkeeper/board/Period;" } : Jvm.MethodName) method_5_code (2 : Nat) (Option.some (Jvm.ClassFile.FieldType.object "com/example/rank_keeper/rankkeeper/board/Period"))).before args0 about1 = true := code_word (m := ⟨1, 4⟩) (meth := k1m4) (c := k1c4) (by decide +kernel) rfl rfl rfl (by decide +kernel)
set_option maxRecDepth 65536 in
theorem w_c6 : (Jvm.Cond.code ({ cls := "com/example/rank_keeper/rankkeeper/board/BoardRules", name := "<init>", desc := "(Lcom/example/rank_keeper/rankkeeper/board/Order;Lcom/example/rank_keeper/rankkeeper/board/Operator;Lcom/example/rank_keeper/rankkeeper/board/Ties;Lcom/example/rank_keeper/rankkeeper/board/Period;)V" } : Jvm.MethodName) prog_6_method_1_code (5 : Nat) (Option.none : Option Jvm.ClassFile.FieldType)).before args0 about1 = true := code_word (m := ⟨2, 0⟩) (meth := k2m0) (c := k2c0) (by decide +kernel) rfl rfl rfl (by decide +kernel)
set_option maxRecDepth 65536 in
theorem w_c7 : (Jvm.Cond.code ({ cls := "java/lang/Object", name := "<init>", desc := "()V" } : Jvm.MethodName) object_method_1_code (1 : Nat) (Option.none : Option Jvm.ClassFile.FieldType)).before args0 about1 = true := code_word (m := ⟨0, 0⟩) (meth := k0m0) (c := k0c0) (by decide +kernel) rfl rfl rfl (by decide +kernel)
set_option maxRecDepth 65536 in
theorem w_c8 : (Jvm.Cond.code ({ cls := "java/util/Objects", name := "requireNonNull", desc := "(Ljava/lang/Object;Ljava/lang/String;)Ljava/lang/Object;" } : Jvm.MethodName) jdk_31_method_11_code (2 : Nat) (Option.some (Jvm.ClassFile.FieldType.object "java/lang/Object"))).before args0 about1 = true := code_word (m := ⟨14, 1⟩) (meth := k14m1) (c := k14c1) (by decide +kernel) rfl rfl rfl (by decide +kernel)
set_option maxRecDepth 65536 in
theorem w_c9 : (Jvm.Cond.code ({ cls := "com/example/rank_keeper/rankkeeper/board/BoardRules", name := "equals", desc := "(Ljava/lang/Object;)Z" } : Jvm.MethodName) prog_6_method_10_code (3 : Nat) (Option.some Jvm.ClassFile.FieldType.boolean)).before args0 about1 = true := code_word (m := ⟨2, 1⟩) (meth := k2m1) (c := k2c1) (by decide +kernel) rfl rfl rfl (by decide +kernel)
def codes1 : List Jvm.Cond := [Jvm.Cond.code x code maxLocals ret, Jvm.Cond.code ({ cls := "com/example/rank_keeper/rankkeeper/board/BoardRulesEqualsPinLaw", name := "rules", desc := "(I)Lcom/example/rank_keeper/rankkeeper/board/BoardRules;" } : Jvm.MethodName) method_6_code (1 : Nat) (Option.some (Jvm.ClassFile.FieldType.object "com/example/rank_keeper/rankkeeper/board/BoardRules")), Jvm.Cond.code ({ cls := "com/example/rank_keeper/rankkeeper/board/BoardRulesEqualsPinLaw", name := "order", desc := "(I)Lcom/example/rank_keeper/rankkeeper/board/Order;" } : Jvm.MethodName) method_2_code (1 : Nat) (Option.some (Jvm.ClassFile.FieldType.object "com/example/rank_keeper/rankkeeper/board/Order")), Jvm.Cond.code ({ cls := "com/example/rank_keeper/rankkeeper/board/BoardRulesEqualsPinLaw", name := "operator", desc := "(I)Lcom/example/rank_keeper/rankkeeper/board/Operator;" } : Jvm.MethodName) method_3_code (2 : Nat) (Option.some (Jvm.ClassFile.FieldType.object "com/example/rank_keeper/rankkeeper/board/Operator")), Jvm.Cond.code ({ cls := "com/example/rank_keeper/rankkeeper/board/BoardRulesEqualsPinLaw", name := "ties", desc := "(I)Lcom/example/rank_keeper/rankkeeper/board/Ties;" } : Jvm.MethodName) method_4_code (1 : Nat) (Option.some (Jvm.ClassFile.FieldType.object "com/example/rank_keeper/rankkeeper/board/Ties")), Jvm.Cond.code ({ cls := "com/example/rank_keeper/rankkeeper/board/BoardRulesEqualsPinLaw", name := "period", desc := "(I)Lcom/example/rank_keeper/rankkeeper/board/Period;" } : Jvm.MethodName) method_5_code (2 : Nat) (Option.some (Jvm.ClassFile.FieldType.object "com/example/rank_keeper/rankkeeper/board/Period")), Jvm.Cond.code ({ cls := "com/example/rank_keeper/rankkeeper/board/BoardRules", name := "<init>", desc := "(Lcom/example/rank_keeper/rankkeeper/board/Order;Lcom/example/rank_keeper/rankkeeper/board/Operator;Lcom/example/rank_keeper/rankkeeper/board/Ties;Lcom/example/rank_keeper/rankkeeper/board/Period;)V" } : Jvm.MethodName) prog_6_method_1_code (5 : Nat) (Option.none : Option Jvm.ClassFile.FieldType), Jvm.Cond.code ({ cls := "java/lang/Object", name := "<init>", desc := "()V" } : Jvm.MethodName) object_method_1_code (1 : Nat) (Option.none : Option Jvm.ClassFile.FieldType), Jvm.Cond.code ({ cls := "java/util/Objects", name := "requireNonNull", desc := "(Ljava/lang/Object;Ljava/lang/String;)Ljava/lang/Object;" } : Jvm.MethodName) jdk_31_method_11_code (2 : Nat) (Option.some (Jvm.ClassFile.FieldType.object "java/lang/Object")), Jvm.Cond.code ({ cls := "com/example/rank_keeper/rankkeeper/board/BoardRules", name := "equals", desc := "(Ljava/lang/Object;)Z" } : Jvm.MethodName) prog_6_method_10_code (3 : Nat) (Option.some Jvm.ClassFile.FieldType.boolean)]
set_option maxRecDepth 65536 in
theorem codes_eq : words1.filter isCode = codes1 := rfl
theorem w_codes : ∀ c ∈ words1.filter isCode, c.before args0 about1 = true := by
  rw [codes_eq]
  intro c hc
  simp only [codes1, List.mem_cons, List.not_mem_nil, or_false] at hc
  rcases hc with rfl | rfl | rfl | rfl | rfl | rfl | rfl | rfl | rfl | rfl
  · exact w_c0
  · exact w_c1
  · exact w_c2
  · exact w_c3
  · exact w_c4
  · exact w_c5
  · exact w_c6
  · exact w_c7
  · exact w_c8
  · exact w_c9
set_option maxRecDepth 65536 in
theorem w_t1 : (words1.take 24).all (fun c => isCode c || c.before args0 about1) = true := by decide +kernel
set_option maxRecDepth 65536 in
theorem w_t2 : ((words1.drop 24).take 24).all (fun c => isCode c || c.before args0 about1) = true := by decide +kernel
set_option maxRecDepth 65536 in
theorem w_t3 : (((words1.drop 24).drop 24).take 24).all (fun c => isCode c || c.before args0 about1) = true := by decide +kernel
set_option maxRecDepth 65536 in
theorem w_t4 : (((words1.drop 24).drop 24).drop 24).all (fun c => isCode c || c.before args0 about1) = true := by decide +kernel
theorem w_tables : (allAtoms (Jvm.Cond.code x code maxLocals ret :: tables_1)).before args0 about1 = true := by
  rw [allAtoms_all]
  show words1.all (fun c => c.before args0 about1) = true
  refine all_split ?_ w_codes
  rw [← List.take_append_drop 24 words1, List.all_append, w_t1, ← List.take_append_drop 24 (words1.drop 24), List.all_append, w_t2, ← List.take_append_drop 24 ((words1.drop 24).drop 24), List.all_append, w_t3, w_t4]
  rfl
set_option maxRecDepth 65536 in
theorem w_case : (Jvm.Cond.and given_1 narrow_1).before args0 about1 = true := by decide +kernel
theorem w_applies : (headSpec (Jvm.Cond.code x code maxLocals ret :: tables_1) room_1).applies x e0.platform about1 = true :=
  (Spec.applies_iff w_frames).mpr ⟨w_running, w_runnable, w_alone, w_named, w_hears, w_ripe, w_room, w_tables⟩
theorem atStart : AtStart classFile x code maxLocals ret World_1 tables_1 room_1 Calls_1 rest_1 Pre_1 launch0 p0 e0 about1 theMethod args0 below0 :=
  ⟨lists_1, trivial, launch0.admits_env _ _ _, launch0.least_env, fairChoices_fair.cas, fairChoices_fair.clock, w_frames, w_args, w_heap, w_applies, trivial, trivial, w_case⟩
end start1
theorem witness_1 : WitnessClaimed_1 := ⟨start1.p0, start1.e0, start1.about1, start1.theMethod, start1.args0, start1.below0, start1.atStart⟩
end Jvm.Pilot.@@N@@
