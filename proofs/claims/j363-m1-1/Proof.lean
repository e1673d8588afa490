import JvmDerived
import JvmDerived.Pilot.@@N@@Statement
import JvmDerived.Pilot.@@N@@Code
set_option linter.unusedVariables false
set_option linter.unusedSimpArgs false
namespace Jvm.Pilot.@@N@@
open Jvm Jvm.ClassFile Sem Op Lib Jvm.Free Jvm.Stand Jvm.LawKit Jvm.RoadKit Bundle Jvm.Pilot.@@N@@.Jvm.D
def own_G (p : Program) (e : Env) (below : List Frame) (F : Outcome → State → Prop) (U : State) : Prop :=
  ∃ s₂ o, Steps p.tables e below U s₂ ∧ s₂.status = .running ∧ Ended s₂ below o ∧ F o s₂
section Own
variable {p : Program} {l : Launch} {e : Env} {R : Room} {s : State} {m : MethodId} {args : Array Value} {below : List Frame} {meth : Method} {c : Code} {T : State} {locs : List Loc} {cells slots : Nat} {F F0 : Outcome → State → Prop} {U V : State}
theorem own_st (st : ∀ t, Steps p.tables e below V t → Steps p.tables e below U t) (h : own_G p e below F V) : own_G p e below F U := by
  obtain ⟨s₂, o, h1, h2⟩ := h
  exact ⟨s₂, o, st _ h1, h2⟩
theorem own_tr (st : Steps p.tables e below U V) (h : own_G p e below F V) : own_G p e below F U := by
  obtain ⟨s₂, o, h1, h2⟩ := h
  exact ⟨s₂, o, st.trans h1, h2⟩
theorem own_start (h : ∀ F : Outcome → State → Prop, (∀ o U, F0 o U → F o U) → own_G p e below F U) : ∃ s₂ o, Steps p.tables e below U s₂ ∧ s₂.status = .running ∧ Ended s₂ below o ∧ F0 o s₂ := h F0 fun _ _ q => q
theorem own_retV (X : Stand p l e R s m args below meth c T locs cells slots) (hx : p.tables.exec = Jvm.exec) (hlk : meth.locks = false) (hret : meth.sig.returnType = none) {pc : Nat} {Ls : Array Slot} (hd : decode c.code pc = .ok (.return_, 1)) {K N : Nat} (hc : cells ≤ K) (hs : slots ≤ N)
    (hF : ∀ U : State, U.heap = T.heap → FrameEnd s (.returned none) U locs K N → F (.returned none) U) : own_G p e below F (T.setTop (mkF m pc Ls [])) := by
  obtain ⟨fs, hr, hrun, hended, hW, hsame⟩ := X.leave (v := none) (fun _ => rfl) hlk
  exact ⟨_, _, X.returnOut hx hret hd hr, hrun, hended, hF _ rfl ⟨⟨_, rfl⟩, hW, hsame.mono hc hs⟩⟩
theorem own_retO (X : Stand p l e R s m args below meth c T locs cells slots) (hx : p.tables.exec = Jvm.exec) (hlk : meth.locks = false) {t : FieldType} (hret : meth.sig.returnType = some t) {w : Value} {i : Instr} (hn : narrow t w = w)
    (hi : (i = .ireturn ∧ (t = .int ∨ t = .boolean ∨ t = .byte ∨ t = .char ∨ t = .short) ∧ ∃ z, w = .int z) ∨ (i = .lreturn ∧ t = .long ∧ ∃ z, w = .long z) ∨ (i = .dreturn ∧ t = .double ∧ ∃ z, w = .double z) ∨ (i = .freturn ∧ t = .float ∧ ∃ z, w = .float z) ∨ (i = .areturn ∧ t.isReference = true ∧ w.isRef = true))
    {pc : Nat} {Ls : Array Slot} {rest : List Value} (hd : decode c.code pc = .ok (i, 1)) {K N : Nat} (hc : cells ≤ K) (hs : slots ≤ N)
    (hF : ∀ U : State, U.heap = T.heap → FrameEnd s (.returned (some w)) U locs K N → F (.returned (some w)) U) : own_G p e below F (T.setTop (mkF m pc Ls (w :: rest))) := by
  obtain ⟨fs, hr, hrun, hended, hW, hsame⟩ := X.leave (v := some w) (fun h => by rw [hret] at h; cases h) hlk
  exact ⟨_, _, retOut X hx hret hn hi hd hr, hrun, hended, hF _ rfl ⟨⟨_, rfl⟩, hW, hsame.mono hc hs⟩⟩
theorem own_retA (X : Stand p l e R s m args below meth c T locs cells slots) (hx : p.tables.exec = Jvm.exec) (hlk : meth.locks = false) {t : FieldType} (hret : meth.sig.returnType = some t) {w : Value} (ht : t.isReference = true) (hw : w.isRef = true)
    {pc : Nat} {Ls : Array Slot} {rest : List Value} (hd : decode c.code pc = .ok (.areturn, 1)) {K N : Nat} (hc : cells ≤ K) (hs : slots ≤ N)
    (hF : ∀ U : State, U.heap = T.heap → FrameEnd s (.returned (some w)) U locs K N → F (.returned (some w)) U) : own_G p e below F (T.setTop (mkF m pc Ls (w :: rest))) :=
  own_retO X hx hlk hret (by cases t <;> first | rfl | (simp [FieldType.isReference] at ht)) (Or.inr (Or.inr (Or.inr (Or.inr ⟨rfl, ht, hw⟩)))) hd hc hs hF
theorem own_retL (X : Stand p l e R s m args below meth c T locs cells slots) (hx : p.tables.exec = Jvm.exec) (hlk : meth.locks = false) (hret : meth.sig.returnType = some .long) {z : Int64}
    {pc : Nat} {Ls : Array Slot} {rest : List Value} (hd : decode c.code pc = .ok (.lreturn, 1)) {K N : Nat} (hc : cells ≤ K) (hs : slots ≤ N)
    (hF : ∀ U : State, U.heap = T.heap → FrameEnd s (.returned (some (.long z))) U locs K N → F (.returned (some (.long z))) U) : own_G p e below F (T.setTop (mkF m pc Ls (.long z :: rest))) :=
  own_retO X hx hlk hret rfl (Or.inr (Or.inl ⟨rfl, rfl, z, rfl⟩)) hd hc hs hF
theorem own_retI (X : Stand p l e R s m args below meth c T locs cells slots) (hx : p.tables.exec = Jvm.exec) (hlk : meth.locks = false) (hret : meth.sig.returnType = some .int) {z : Int32}
    {pc : Nat} {Ls : Array Slot} {rest : List Value} (hd : decode c.code pc = .ok (.ireturn, 1)) {K N : Nat} (hc : cells ≤ K) (hs : slots ≤ N)
    (hF : ∀ U : State, U.heap = T.heap → FrameEnd s (.returned (some (.int z))) U locs K N → F (.returned (some (.int z))) U) : own_G p e below F (T.setTop (mkF m pc Ls (.int z :: rest))) :=
  own_retO X hx hlk hret rfl (Or.inl ⟨rfl, Or.inl rfl, z, rfl⟩) hd hc hs hF
theorem own_retN (X : Stand p l e R s m args below meth c T locs cells slots) (hx : p.tables.exec = Jvm.exec) (hlk : meth.locks = false) {t : FieldType} (hret : meth.sig.returnType = some t) {z : Int32} (hn : narrow t (.int z) = .int z) (ht : t = .int ∨ t = .boolean ∨ t = .byte ∨ t = .char ∨ t = .short)
    {pc : Nat} {Ls : Array Slot} {rest : List Value} (hd : decode c.code pc = .ok (.ireturn, 1)) {K N : Nat} (hc : cells ≤ K) (hs : slots ≤ N)
    (hF : ∀ U : State, U.heap = T.heap → FrameEnd s (.returned (some (.int z))) U locs K N → F (.returned (some (.int z))) U) : own_G p e below F (T.setTop (mkF m pc Ls (.int z :: rest))) :=
  own_retO X hx hlk hret hn (Or.inl ⟨rfl, ht, z, rfl⟩) hd hc hs hF
theorem own_since (s : State) (n : Nat) : s.Since s.vm n := ⟨State.Warmed39.refl s, fun j q hj hq => absurd (Array.getElem?_eq_some_iff.mp hq).1 (Nat.not_lt.mpr hj)⟩
theorem own_retVW {vm₁ : Vm} (X : Stand p l e R (s.setVm vm₁) m args below meth c T locs cells slots) {n : Nat} (hS : s.Since vm₁ n) (hk : n ≤ T.heap.size) (hx : p.tables.exec = Jvm.exec) (hlk : meth.locks = false) (hret : meth.sig.returnType = none) {pc : Nat} {Ls : Array Slot} (hd : decode c.code pc = .ok (.return_, 1)) {K N : Nat} (hc : cells ≤ K) (hs : slots ≤ N)
    (hF : ∀ U : State, U.heap = T.heap → U.vm = T.vm → ReturnedEndW s (.returned none) U locs K N → F (.returned none) U) : own_G p e below F (T.setTop (mkF m pc Ls [])) := by
  obtain ⟨fs, hr, hrun, hended, h1, h2, h3, h4⟩ := X.leaveW hS hk (v := none) (fun _ => rfl) hlk
  exact ⟨_, _, X.returnOut hx hret hd hr, hrun, hended, hF _ rfl rfl ⟨h1, h2, h3, h4.mono hc hs⟩⟩
theorem own_retOW {vm₁ : Vm} (X : Stand p l e R (s.setVm vm₁) m args below meth c T locs cells slots) {n : Nat} (hS : s.Since vm₁ n) (hk : n ≤ T.heap.size) (hx : p.tables.exec = Jvm.exec) (hlk : meth.locks = false) {t : FieldType} (hret : meth.sig.returnType = some t) {w : Value} {i : Instr} (hn : narrow t w = w)
    (hi : (i = .ireturn ∧ (t = .int ∨ t = .boolean ∨ t = .byte ∨ t = .char ∨ t = .short) ∧ ∃ z, w = .int z) ∨ (i = .lreturn ∧ t = .long ∧ ∃ z, w = .long z) ∨ (i = .dreturn ∧ t = .double ∧ ∃ z, w = .double z) ∨ (i = .freturn ∧ t = .float ∧ ∃ z, w = .float z) ∨ (i = .areturn ∧ t.isReference = true ∧ w.isRef = true))
    {pc : Nat} {Ls : Array Slot} {rest : List Value} (hd : decode c.code pc = .ok (i, 1)) {K N : Nat} (hc : cells ≤ K) (hs : slots ≤ N)
    (hF : ∀ U : State, U.heap = T.heap → U.vm = T.vm → ReturnedEndW s (.returned (some w)) U locs K N → F (.returned (some w)) U) : own_G p e below F (T.setTop (mkF m pc Ls (w :: rest))) := by
  obtain ⟨fs, hr, hrun, hended, h1, h2, h3, h4⟩ := X.leaveW hS hk (v := some w) (fun h => by rw [hret] at h; cases h) hlk
  exact ⟨_, _, retOut X hx hret hn hi hd hr, hrun, hended, hF _ rfl rfl ⟨h1, h2, h3, h4.mono hc hs⟩⟩
theorem own_retAW {vm₁ : Vm} (X : Stand p l e R (s.setVm vm₁) m args below meth c T locs cells slots) {n : Nat} (hS : s.Since vm₁ n) (hk : n ≤ T.heap.size) (hx : p.tables.exec = Jvm.exec) (hlk : meth.locks = false) {t : FieldType} (hret : meth.sig.returnType = some t) {w : Value} (ht : t.isReference = true) (hw : w.isRef = true)
    {pc : Nat} {Ls : Array Slot} {rest : List Value} (hd : decode c.code pc = .ok (.areturn, 1)) {K N : Nat} (hc : cells ≤ K) (hs : slots ≤ N)
    (hF : ∀ U : State, U.heap = T.heap → U.vm = T.vm → ReturnedEndW s (.returned (some w)) U locs K N → F (.returned (some w)) U) : own_G p e below F (T.setTop (mkF m pc Ls (w :: rest))) :=
  own_retOW X hS hk hx hlk hret (by cases t <;> first | rfl | (simp [FieldType.isReference] at ht)) (Or.inr (Or.inr (Or.inr (Or.inr ⟨rfl, ht, hw⟩)))) hd hc hs hF
theorem own_retNW {vm₁ : Vm} (X : Stand p l e R (s.setVm vm₁) m args below meth c T locs cells slots) {n : Nat} (hS : s.Since vm₁ n) (hk : n ≤ T.heap.size) (hx : p.tables.exec = Jvm.exec) (hlk : meth.locks = false) {t : FieldType} (hret : meth.sig.returnType = some t) {z : Int32} (hn : narrow t (.int z) = .int z) (ht : t = .int ∨ t = .boolean ∨ t = .byte ∨ t = .char ∨ t = .short)
    {pc : Nat} {Ls : Array Slot} {rest : List Value} (hd : decode c.code pc = .ok (.ireturn, 1)) {K N : Nat} (hc : cells ≤ K) (hs : slots ≤ N)
    (hF : ∀ U : State, U.heap = T.heap → U.vm = T.vm → ReturnedEndW s (.returned (some (.int z))) U locs K N → F (.returned (some (.int z))) U) : own_G p e below F (T.setTop (mkF m pc Ls (.int z :: rest))) :=
  own_retOW X hS hk hx hlk hret hn (Or.inl ⟨rfl, ht, z, rfl⟩) hd hc hs hF
theorem own_cat {v : Value} (h : v.isRef = true) : v.category = 1 := by rcases ref_cases h with rfl | ⟨a, rfl⟩ <;> rfl
theorem own_fitR {v : Value} {C : String} (h : v.isRef = true) : fits (.object C) v = true := by rcases ref_cases h with rfl | ⟨a, rfl⟩ <;> rfl
theorem own_narR {v : Value} {C : String} : narrow (.object C) v = v := by cases v <;> rfl
theorem own_fitA {v : Value} {t : FieldType} (h : v.isRef = true) : fits (.array t) v = true := by rcases ref_cases h with rfl | ⟨a, rfl⟩ <;> rfl
theorem own_narA {v : Value} {t : FieldType} : narrow (.array t) v = v := by cases v <;> rfl
theorem own_narB {b : Int32} (h : b = 0 ∨ b = 1) : narrow .boolean (.int b) = .int b := by rcases h with rfl | rfl <;> rfl
theorem own_fitB {b : Int32} (h : b = 0 ∨ b = 1) : fits .boolean (.int b) = true := by rcases h with rfl | rfl <;> rfl
theorem own_arvSafe {Z : State} {EL : List (String × Nat)} {vm : Vm} {h : Heap} {x : Addr} {k : ClassId} {ty : FieldType} {n : Int32} {vs : List Value} {d : Value} (hal : Z.vm.Alike vm) (A : Arv Z h x k ty n vs d) (ht : ty ≠ .byte) : Safe Z EL vm h x := by
  obtain ⟨c, A, -⟩ := A
  exact Safe.arr hal A ht
end Own
theorem own_len {s : State} {args : Array Value} {t : Term} {x : Addr} {cl : Cell} {z : Int32} (ht : t.eval args s none [] s = some (.ref x)) (ha : s.arrayAt? x = some cl) (h : (Jvm.Cond.eq (.length t) (.int z)).value args s none s [] = some true) : cl.slots.size < 2 ^ 31 ∧ cl.slots.size.toInt32 = z := by
  obtain ⟨u, w, e1, e2, -, -⟩ := cmp_v (Or.inl h)
  obtain ⟨a', cl', q1, q2, q3⟩ := Term.length_spec e1
  cases ht.symm.trans q1
  cases ha.symm.trans q2
  subst q3
  refine ⟨?_, gotT (Cond.eq_ints e1 (Term.int_eval z)) h⟩
  by_cases hl : cl.slots.size < 2 ^ 31
  · exact hl
  · exfalso
    have e5 : (Term.length t).eval args s none [] s = none := by
      simp only [Term.eval, ht, ha, Option.bind_eq_bind, Option.bind_some, if_neg hl]
    rw [e5] at e1
    cases e1
def own_max (a b : Int64) : Int64 := if a < b then b else a
theorem own_max_ge (a b : Int64) : ¬ own_max a b < a := by
  unfold own_max
  split
  · rename_i h
    simp only [Int64.lt_iff_toInt_lt] at h ⊢
    omega
  · simp [Int64.lt_iff_toInt_lt]
theorem own_pos {q : Int64} (h : ¬ q < 1) : ¬ (lcmpW q (1 : Int64) < (0 : Int32)) := fun k => h ((lw_lt _ _).mp k)
theorem own_m128 {q : Int64} (h : ¬ q < 1) : ¬ (lcmpW q (-128 : Int64) < (0 : Int32)) := fun k => h (by
  have k2 := (lw_lt _ _).mp k
  rw [Int64.lt_iff_toInt_lt] at k2 ⊢
  have e1 : (1 : Int64).toInt = 1 := by decide
  have e2 : (-128 : Int64).toInt = -128 := by decide
  omega)
def own_b (a b c d : Int64) : Int32 := if a = c ∧ b = d then 1 else 0
theorem own_b_comm (a b c d : Int64) : own_b c d a b = own_b a b c d := by
  unfold own_b
  by_cases h : a = c ∧ b = d
  · rw [if_pos h, if_pos ⟨h.1.symm, h.2.symm⟩]
  · rw [if_neg h, if_neg fun k => h ⟨k.1.symm, k.2.symm⟩]
theorem own_b_self (a b : Int64) : own_b a b a b = 1 := if_pos ⟨rfl, rfl⟩
theorem own_b_no1 {a b c d : Int64} (h : ¬ a = c) : own_b a b c d = 0 := if_neg fun k => h k.1
theorem own_b_no2 {a b c d : Int64} (h : ¬ b = d) : own_b a b c d = 0 := if_neg fun k => h k.2
theorem own_nsRoot {Z : State} {a0 : Array Value} {O K : String} {n : Nat} (w : (Jvm.Cond.noSuperclass O).before a0 Z = true) (wk : (Jvm.Cond.instantiable K n).before a0 Z = true) (hn : O ≠ K) : NS Z O K := by
  obtain ⟨c, k, h1, h2, h3, -, -⟩ := Cond.noSuperclass_spec w
  obtain ⟨t, k2, g1, -⟩ := Cond.instantiable_spec wk
  have ne := ids_ne h1 g1 hn
  refine ⟨c, t, h1, g1, fun fuel => ?_⟩
  cases fuel with
  | zero => rfl
  | succ f => simp [Vm.isSubclassAux, ne, h2, h3]
theorem own_nsNo {Z : State} {a0 : Array Value} {C S K : String} {n : Nat} (w : (Jvm.Cond.superclass C S).before a0 Z = true) (wk : (Jvm.Cond.instantiable K n).before a0 Z = true) (ns : NS Z C K) (hn : C ≠ K) : ∃ c t, Z.vm.findClass C = some c ∧ Z.vm.findClass K = some t ∧ Z.vm.assignable c t = false := by
  obtain ⟨c, t, h0, g0, n3⟩ := ns
  obtain ⟨p, k, kp, h1, h2, h3, h4, h5, -, h7⟩ := Cond.superclass_spec h0 w
  obtain ⟨t', k2, g1, g2, g3, g4, -⟩ := Cond.instantiable_spec wk
  cases g0.symm.trans g1
  have g5 : k2.isInterface = false := by
    rw [Bool.or_eq_false_iff] at g4
    exact g4.1
  have ne := ids_ne h0 g0 hn
  refine ⟨c, t, h0, g0, ?_⟩
  show Z.vm.assignableAux (255 + 1) c t = false
  simp [Vm.assignableAux, ne, h2, g2, h5, g3, g5, Vm.isSubclass, n3]
theorem d2_0 : decode jdk_29_method_66_code 0 = .ok (.lload_n 0, 1) := by decide +kernel
theorem d2_1 : decode jdk_29_method_66_code 1 = .ok (.lload_n 2, 1) := by decide +kernel
theorem d2_2 : decode jdk_29_method_66_code 2 = .ok (.lcmp, 1) := by decide +kernel
theorem d2_3 : decode jdk_29_method_66_code 3 = .ok (.ifCond .lt 7, 3) := by decide +kernel
theorem d2_10 : decode jdk_29_method_66_code 10 = .ok (.lload_n 2, 1) := by decide +kernel
theorem d2_11 : decode jdk_29_method_66_code 11 = .ok (.lreturn, 1) := by decide +kernel
theorem d2_6 : decode jdk_29_method_66_code 6 = .ok (.lload_n 0, 1) := by decide +kernel
theorem d2_7 : decode jdk_29_method_66_code 7 = .ok (.goto 4, 3) := by decide +kernel
theorem own_ef_max (m : MethodId) (x0 : Int64) (x1 : Int64) : entryFrame m #[(.long x0), (.long x1)] 4 = mkF m 0 #[.val (.long x0), .second, .val (.long x1), .second] [] := by first | (simp [entryFrame, mkF, argsToLocals, Value.category]; done) | rfl
def Q_max (Z : State) (q1 q2 : Int64) (h0 : Heap) (n0 : Nat) (v : Option Value) (h : Heap) (L : List Loc) : Prop := v = some (.long (own_max q1 q2)) ∧ Fr n0 L ∧ h = h0
set_option maxRecDepth 65536 in
set_option maxHeartbeats 40000000 in
theorem rm_max (l : Launch) (Z : State) (a0 : Array Value) (hw : ∀ d ∈ tables_1, d.before a0 Z = true) (ws : List Jvm.Cond) (q1 q2 : Int64) (h0 : Heap) (n0 : Nat) (Z0 : n0 ≤ h0.size)  :
    MetFree l (⟨"java/lang/Math", "max", "(JJ)J"⟩ : MethodName) (head1 (Jvm.Cond.code (⟨"java/lang/Math", "max", "(JJ)J"⟩ : MethodName) jdk_29_method_66_code 4 (some .long) :: ws) ({ frames := 0, cells := 0, slots := 0, locals := 0 } : Room)) (fun a U => a = #[(.long q1), (.long q2)] ∧ Z.Warmed39 U.vm ∧ U.heap = h0) (fun _ _ _ _ _ => True) (fun _ U o U' => ∃ v L, o = .returned v ∧ Q_max Z q1 q2 h0 n0 v U'.heap L ∧ FrameEnd U o U' L ({ frames := 0, cells := 0, slots := 0, locals := 0 } : Room).cells ({ frames := 0, cells := 0, slots := 0, locals := 0 } : Room).slots) := by
  refine MetFree.of_bodySF (Jvm.Free.JP.mathPlain rfl (by decide +kernel)) hisR ?_
  intro p e s m args below meth c s₁ Bd hml0 hP hK
  obtain ⟨rfl, hZ, hh⟩ := hP
  have hx := Bd.exec
  have hby := Bd.bytes
  have hml : c.maxLocals = 4 := hml0
  have hown : s.vm.findClass "java/lang/Math" = some m.cls := findClass_of_methodNamed Bd.named
  have hnm := (name_of_methodNamed Bd.named Bd.method).1
  have X0 : Stand p l e ({ frames := 0, cells := 0, slots := 0, locals := 0 } : Room) s m #[(.long q1), (.long q2)] below meth c s₁ [] 0 0 := Stand.of_body Bd
  have e0 : s₁.heap = h0 := by rw [← hh, Bd.state]; rfl
  have N0 := Fr.nil n0
  refine own_start (F0 := fun o U' => ∃ v L, o = .returned v ∧ Q_max Z q1 q2 h0 n0 v U'.heap L ∧ FrameEnd s o U' L ({ frames := 0, cells := 0, slots := 0, locals := 0 } : Room).cells ({ frames := 0, cells := 0, slots := 0, locals := 0 } : Room).slots) fun F hF => ?_
  rw [own_ef_max m q1 q2]
  refine own_st (V := s₁.setTop (mkF m 1 #[.val (.long q1), .second, .val (.long q2), .second] [(.long q1)])) (fun _ hk => XS.lloadN X0.here hx rfl (hb hby d2_0) rfl  hk) ?_
  refine own_st (V := s₁.setTop (mkF m 2 #[.val (.long q1), .second, .val (.long q2), .second] [(.long q2), (.long q1)])) (fun _ hk => XS.lloadN X0.here hx rfl (hb hby d2_1) rfl  hk) ?_
  refine own_st (V := s₁.setTop (mkF m 3 #[.val (.long q1), .second, .val (.long q2), .second] [(.int (lcmpW q1 q2))])) (fun _ hk => XS.lcmp X0.here hx rfl (hb hby d2_2) rfl hk) ?_
  by_cases hc3 : (lcmpW q1 q2) < (0 : Int32)
  · skip
    refine own_st (V := s₁.setTop (mkF m 10 #[.val (.long q1), .second, .val (.long q2), .second] [])) (fun _ hk => XS.ifYes X0.here hx rfl (pc0 := 3) (pc' := 10) rfl (hb hby d2_3) rfl ((if0 _ _).trans (tlt (show (lcmpW q1 q2) < (0 : Int32) from hc3)).1) (by decide) (by decide) hk) ?_
    refine own_st (V := s₁.setTop (mkF m 11 #[.val (.long q1), .second, .val (.long q2), .second] [(.long q2)])) (fun _ hk => XS.lloadN X0.here hx rfl (hb hby d2_10) rfl  hk) ?_
    exact own_retL X0 hx Bd.notSynchronized Bd.returns (hb hby d2_11) (by decide) (by decide) (fun U hU hE => hF _ _ ⟨_, _, rfl, (by rw [hU, e0]; exact ⟨(by rw [own_max, if_pos ((lw_lt _ _).mp hc3)]), N0, rfl⟩), hE⟩)
  · skip
    refine own_st (V := s₁.setTop (mkF m 6 #[.val (.long q1), .second, .val (.long q2), .second] [])) (fun _ hk => XS.ifNo X0.here hx rfl (hb hby d2_3) rfl ((if0 _ _).trans (flt (show ¬ ((lcmpW q1 q2) < (0 : Int32)) from hc3)).1) hk) ?_
    refine own_st (V := s₁.setTop (mkF m 7 #[.val (.long q1), .second, .val (.long q2), .second] [(.long q1)])) (fun _ hk => XS.lloadN X0.here hx rfl (hb hby d2_6) rfl  hk) ?_
    refine own_st (V := s₁.setTop (mkF m 11 #[.val (.long q1), .second, .val (.long q2), .second] [(.long q1)])) (fun _ hk => XS.goto X0.here hx rfl (pc0 := 7) (pc' := 11) rfl (hb hby d2_7) (by decide) (by decide) hk) ?_
    exact own_retL X0 hx Bd.notSynchronized Bd.returns (hb hby d2_11) (by decide) (by decide) (fun U hU hE => hF _ _ ⟨_, _, rfl, (by rw [hU, e0]; exact ⟨(by rw [own_max, if_neg fun k => hc3 ((lw_lt _ _).mpr k)]), N0, rfl⟩), hE⟩)
theorem d1_0 : decode method_2_code 0 = .ok (.lconst 1, 1) := by decide +kernel
theorem d1_1 : decode method_2_code 1 = .ok (.lload_n 0, 1) := by decide +kernel
theorem d1_2 : decode method_2_code 2 = .ok (.ldc2_w 9, 3) := by decide +kernel
theorem d1_5 : decode method_2_code 5 = .ok (.land, 1) := by decide +kernel
theorem d1_6 : decode method_2_code 6 = .ok (.invokestatic 11, 3) := by decide +kernel
theorem own_pd0 : parseMethodDescriptor "(JJ)J" = some ⟨[.long, .long], some .long⟩ := by decide +kernel
theorem d1_9 : decode method_2_code 9 = .ok (.lreturn, 1) := by decide +kernel
theorem own_pn_com_example_heapwright_heapwright_logic_smtlib_SourcePositionEqualsPinLaw : plainName "com/example/heapwright/heapwright/logic/smtlib/SourcePositionEqualsPinLaw" = true := by first | (simp [plainName, overriddenIn]; done) | decide +kernel
theorem own_ef_pos (m : MethodId) (x0 : Int64) : entryFrame m #[(.long x0)] 2 = mkF m 0 #[.val (.long x0), .second] [] := by first | (simp [entryFrame, mkF, argsToLocals, Value.category]; done) | rfl
def Q_pos (Z : State) (q1 : Int64) (h0 : Heap) (n0 : Nat) (v : Option Value) (h : Heap) (L : List Loc) : Prop := v = some (.long (own_max 1 (q1 &&& (9223372036854775807 : Int64)))) ∧ Fr n0 L ∧ h = h0
set_option maxRecDepth 65536 in
set_option maxHeartbeats 40000000 in
theorem rm_pos (l : Launch) (Z : State) (a0 : Array Value) (hw : ∀ d ∈ tables_1, d.before a0 Z = true) (ws : List Jvm.Cond) (q1 : Int64) (h0 : Heap) (n0 : Nat) (Z0 : n0 ≤ h0.size)  :
    MetFree l (⟨"com/example/heapwright/heapwright/logic/smtlib/SourcePositionEqualsPinLaw", "pos", "(J)J"⟩ : MethodName) (head1 (Jvm.Cond.code (⟨"com/example/heapwright/heapwright/logic/smtlib/SourcePositionEqualsPinLaw", "pos", "(J)J"⟩ : MethodName) method_2_code 2 (some .long) :: ws) ({ frames := 1, cells := 0, slots := 0, locals := 15 } : Room)) (fun a U => a = #[(.long q1)] ∧ Z.Warmed39 U.vm ∧ U.heap = h0) (fun _ _ _ _ _ => True) (fun _ U o U' => ∃ v L, o = .returned v ∧ Q_pos Z q1 h0 n0 v U'.heap L ∧ FrameEnd U o U' L ({ frames := 1, cells := 0, slots := 0, locals := 15 } : Room).cells ({ frames := 1, cells := 0, slots := 0, locals := 15 } : Room).slots) := by
  refine MetFree.of_bodySF (plainFor_of_name own_pn_com_example_heapwright_heapwright_logic_smtlib_SourcePositionEqualsPinLaw) hisR ?_
  intro p e s m args below meth c s₁ Bd hml0 hP hK
  obtain ⟨rfl, hZ, hh⟩ := hP
  have hx := Bd.exec
  have hby := Bd.bytes
  have hml : c.maxLocals = 2 := hml0
  have hown : s.vm.findClass "com/example/heapwright/heapwright/logic/smtlib/SourcePositionEqualsPinLaw" = some m.cls := findClass_of_methodNamed Bd.named
  have hnm := (name_of_methodNamed Bd.named Bd.method).1
  have X0 : Stand p l e ({ frames := 1, cells := 0, slots := 0, locals := 15 } : Room) s m #[(.long q1)] below meth c s₁ [] 0 0 := Stand.of_body Bd
  have e0 : s₁.heap = h0 := by rw [← hh, Bd.state]; rfl
  have N0 := Fr.nil n0
  refine own_start (F0 := fun o U' => ∃ v L, o = .returned v ∧ Q_pos Z q1 h0 n0 v U'.heap L ∧ FrameEnd s o U' L ({ frames := 1, cells := 0, slots := 0, locals := 15 } : Room).cells ({ frames := 1, cells := 0, slots := 0, locals := 15 } : Room).slots) fun F hF => ?_
  rw [own_ef_pos m q1]
  refine own_st (V := s₁.setTop (mkF m 1 #[.val (.long q1), .second] [(.long (1 : Int64))])) (fun _ hk => XS.lconst X0.here hx rfl (hb hby d1_0) hk) ?_
  refine own_st (V := s₁.setTop (mkF m 2 #[.val (.long q1), .second] [(.long q1), (.long (1 : Int64))])) (fun _ hk => XS.lloadN X0.here hx rfl (hb hby d1_1) rfl  hk) ?_
  refine own_st (V := s₁.setTop (mkF m 5 #[.val (.long q1), .second] [(.long (9223372036854775807 : Int64)), (.long q1), (.long (1 : Int64))])) (X0.ldc2Long hx hown (mvT hZ (hw _ (List.mem_of_getElem? (i := 4) rfl))) (g := (mkF m 2 #[.val (.long q1), .second] [(.long q1), (.long (1 : Int64))])) rfl (hb hby d1_2)) ?_
  refine own_st (V := s₁.setTop (mkF m 6 #[.val (.long q1), .second] [(.long (q1 &&& (9223372036854775807 : Int64))), (.long (1 : Int64))])) (fun _ hk => XS.land X0.here hx rfl (hb hby d1_5) rfl hk) ?_
  obtain ⟨_, _, ⟨T1, L1, k1, n1⟩, -, X1, ⟨Lc1, hQ1, l1, y1, z1⟩, st1⟩ := Jvm.LawKit.callS X0 hx (y := (⟨"java/lang/Math", "max", "(JJ)J"⟩ : MethodName)) hown (mvT hZ (hw _ (List.mem_of_getElem? (i := 5) rfl))) (mvT hZ (hw _ (List.mem_of_getElem? (i := 6) rfl))) (mvT hZ (hw _ (List.mem_of_getElem? (i := 7) rfl))) (mvT hZ (hw _ (List.mem_of_getElem? (i := 8) rfl))) (by decide) (backOf (W := 0) (rm_max l Z a0 hw [] (1 : Int64) (q1 &&& (9223372036854775807 : Int64)) h0 n0 Z0) hZ (hw _ (List.mem_of_getElem? (i := 8) rfl)) (hw _ (List.mem_of_getElem? (i := 7) rfl)) (by decide) (by decide)) (g := (mkF m 6 #[.val (.long q1), .second] [(.long (q1 &&& (9223372036854775807 : Int64))), (.long (1 : Int64))])) rfl (by rw [hml]; rfl) (argsL := [(.long (1 : Int64)), (.long (q1 &&& (9223372036854775807 : Int64)))]) (rest := []) (lenOf own_pd0 rfl) rfl (by show 2 * 0 + _ ≤ _; exact Nat.le_of_eq rfl) (hb hby d1_6) (fun _ _ => ⟨rfl, e0, (by decide : 0 + 0 ≤ _), (by decide : 0 + 0 ≤ _)⟩)
  dsimp only [Pt.U, Pt.locs, Pt.cells, Pt.slots] at X1 l1 y1 z1 st1 hQ1
  subst l1 y1 z1
  obtain ⟨rfl, N1q, es1⟩ := hQ1
  have N1 := Fr.app N0 N1q
  refine own_st (V := T1.setTop (mkF m 9 #[.val (.long q1), .second] [(.long (own_max 1 (q1 &&& (9223372036854775807 : Int64))))])) st1 ?_
  exact own_retL X1 hx Bd.notSynchronized Bd.returns (hb hby d1_9) (by decide) (by decide) (fun U hU hE => hF _ _ ⟨_, _, rfl, (by rw [hU, es1]; exact ⟨rfl, N1, rfl⟩), hE⟩)
theorem d3_0 : decode prog_184_method_1_code 0 = .ok (.aload_n 0, 1) := by decide +kernel
theorem d3_1 : decode prog_184_method_1_code 1 = .ok (.invokespecial 1, 3) := by decide +kernel
theorem d3_4 : decode prog_184_method_1_code 4 = .ok (.lload_n 1, 1) := by decide +kernel
theorem d3_5 : decode prog_184_method_1_code 5 = .ok (.lconst 1, 1) := by decide +kernel
theorem d3_6 : decode prog_184_method_1_code 6 = .ok (.lcmp, 1) := by decide +kernel
theorem d3_7 : decode prog_184_method_1_code 7 = .ok (.ifCond .lt 9, 3) := by decide +kernel
theorem d3_10 : decode prog_184_method_1_code 10 = .ok (.lload_n 3, 1) := by decide +kernel
theorem d3_11 : decode prog_184_method_1_code 11 = .ok (.lconst 1, 1) := by decide +kernel
theorem d3_12 : decode prog_184_method_1_code 12 = .ok (.lcmp, 1) := by decide +kernel
theorem d3_13 : decode prog_184_method_1_code 13 = .ok (.ifCond .ge 34, 3) := by decide +kernel
theorem d3_47 : decode prog_184_method_1_code 47 = .ok (.aload_n 0, 1) := by decide +kernel
theorem d3_48 : decode prog_184_method_1_code 48 = .ok (.lload_n 1, 1) := by decide +kernel
theorem d3_49 : decode prog_184_method_1_code 49 = .ok (.putfield 26, 3) := by decide +kernel
theorem d3_52 : decode prog_184_method_1_code 52 = .ok (.aload_n 0, 1) := by decide +kernel
theorem d3_53 : decode prog_184_method_1_code 53 = .ok (.lload_n 3, 1) := by decide +kernel
theorem d3_54 : decode prog_184_method_1_code 54 = .ok (.putfield 32, 3) := by decide +kernel
theorem d3_57 : decode prog_184_method_1_code 57 = .ok (.return_, 1) := by decide +kernel
theorem own_pn_com_example_heapwright_heapwright_logic_smtlib_SourcePosition : plainName "com/example/heapwright/heapwright/logic/smtlib/SourcePosition" = true := by first | (simp [plainName, overriddenIn]; done) | decide +kernel
theorem own_ef_init (m : MethodId) (x0 : Addr) (x1 : Int64) (x2 : Int64) : entryFrame m #[(.ref x0), (.long x1), (.long x2)] 5 = mkF m 0 #[.val (.ref x0), .val (.long x1), .second, .val (.long x2), .second] [] := by first | (simp [entryFrame, mkF, argsToLocals, Value.category]; done) | rfl
def Q_init (Z : State) (a1 : Addr) (q2 q3 : Int64) (u1 u2 : Value) (h0 : Heap) (n0 : Nat) (v : Option Value) (h : Heap) (L : List Loc) : Prop := v = none ∧ Fr n0 L ∧ Keep h0 h [a1] ∧ Exa Z h a1 "com/example/heapwright/heapwright/logic/smtlib/SourcePosition" ∧ Fld Z h a1 "com/example/heapwright/heapwright/logic/smtlib/SourcePosition" "line" "J" (.long q2) ∧ Fld Z h a1 "com/example/heapwright/heapwright/logic/smtlib/SourcePosition" "column" "J" (.long q3)
set_option maxRecDepth 65536 in
set_option maxHeartbeats 40000000 in
theorem rm_init (l : Launch) (Z : State) (a0 : Array Value) (hw : ∀ d ∈ tables_1, d.before a0 Z = true) (ws : List Jvm.Cond) (a1 : Addr) (q2 q3 : Int64) (u1 u2 : Value) (h0 : Heap) (n0 : Nat) (Z0 : n0 ≤ h0.size) (E_a1 : Exa Z h0 a1 "com/example/heapwright/heapwright/logic/smtlib/SourcePosition") (F_line : Fld Z h0 a1 "com/example/heapwright/heapwright/logic/smtlib/SourcePosition" "line" "J" u1) (F_col : Fld Z h0 a1 "com/example/heapwright/heapwright/logic/smtlib/SourcePosition" "column" "J" u2) (g_a1 : n0 ≤ a1) (p2 : ¬ q2 < 1) (p3 : ¬ q3 < 1) :
    MetFree l (⟨"com/example/heapwright/heapwright/logic/smtlib/SourcePosition", "<init>", "(JJ)V"⟩ : MethodName) (head1 (Jvm.Cond.code (⟨"com/example/heapwright/heapwright/logic/smtlib/SourcePosition", "<init>", "(JJ)V"⟩ : MethodName) prog_184_method_1_code 5 none :: ws) ({ frames := 1, cells := 0, slots := 0, locals := 12 } : Room)) (fun a U => a = #[(.ref a1), (.long q2), (.long q3)] ∧ Z.Warmed39 U.vm ∧ U.heap = h0) (fun _ _ _ _ _ => True) (fun _ U o U' => ∃ v L, o = .returned v ∧ Q_init Z a1 q2 q3 u1 u2 h0 n0 v U'.heap L ∧ FrameEnd U o U' L ({ frames := 1, cells := 0, slots := 0, locals := 12 } : Room).cells ({ frames := 1, cells := 0, slots := 0, locals := 12 } : Room).slots) := by
  refine MetFree.of_bodySF (plainFor_of_name own_pn_com_example_heapwright_heapwright_logic_smtlib_SourcePosition) hisR ?_
  intro p e s m args below meth c s₁ Bd hml0 hP hK
  obtain ⟨rfl, hZ, hh⟩ := hP
  have hx := Bd.exec
  have hby := Bd.bytes
  have hml : c.maxLocals = 5 := hml0
  have hown : s.vm.findClass "com/example/heapwright/heapwright/logic/smtlib/SourcePosition" = some m.cls := findClass_of_methodNamed Bd.named
  have hnm := (name_of_methodNamed Bd.named Bd.method).1
  have X0 : Stand p l e ({ frames := 1, cells := 0, slots := 0, locals := 12 } : Room) s m #[(.ref a1), (.long q2), (.long q3)] below meth c s₁ [] 0 0 := Stand.of_body Bd
  have e0 : s₁.heap = h0 := by rw [← hh, Bd.state]; rfl
  have N0 := Fr.nil n0
  refine own_start (F0 := fun o U' => ∃ v L, o = .returned v ∧ Q_init Z a1 q2 q3 u1 u2 h0 n0 v U'.heap L ∧ FrameEnd s o U' L ({ frames := 1, cells := 0, slots := 0, locals := 12 } : Room).cells ({ frames := 1, cells := 0, slots := 0, locals := 12 } : Room).slots) fun F hF => ?_
  rw [own_ef_init m a1 q2 q3]
  have K := Keep.refl h0 [a1]
  refine own_st (V := s₁.setTop (mkF m 1 #[.val (.ref a1), .val (.long q2), .second, .val (.long q3), .second] [(.ref a1)])) (fun _ hk => XS.aloadN X0.here hx rfl (hb hby d3_0) rfl rfl hk) ?_
  obtain ⟨T1, X1, e1, st1⟩ := initO X0 hx hZ hown (hw _ (List.mem_of_getElem? (i := 15) rfl)) (hw _ (List.mem_of_getElem? (i := 16) rfl)) (hw _ (List.mem_of_getElem? (i := 17) rfl)) e0 (g := (mkF m 1 #[.val (.ref a1), .val (.long q2), .second, .val (.long q3), .second] [(.ref a1)])) rfl (by rw [hml]; rfl) rfl (hb hby d3_1) (by decide) (W := 0) (by show 2 * 0 + _ ≤ _; exact Nat.le_of_eq rfl) (by decide)
  refine own_st (V := T1.setTop (mkF m 4 #[.val (.ref a1), .val (.long q2), .second, .val (.long q3), .second] [])) st1 ?_
  refine own_st (V := T1.setTop (mkF m 5 #[.val (.ref a1), .val (.long q2), .second, .val (.long q3), .second] [(.long q2)])) (fun _ hk => XS.lloadN X1.here hx rfl (hb hby d3_4) rfl  hk) ?_
  refine own_st (V := T1.setTop (mkF m 6 #[.val (.ref a1), .val (.long q2), .second, .val (.long q3), .second] [(.long (1 : Int64)), (.long q2)])) (fun _ hk => XS.lconst X1.here hx rfl (hb hby d3_5) hk) ?_
  refine own_st (V := T1.setTop (mkF m 7 #[.val (.ref a1), .val (.long q2), .second, .val (.long q3), .second] [(.int (lcmpW q2 (1 : Int64)))])) (fun _ hk => XS.lcmp X1.here hx rfl (hb hby d3_6) rfl hk) ?_
  refine own_st (V := T1.setTop (mkF m 10 #[.val (.ref a1), .val (.long q2), .second, .val (.long q3), .second] [])) (fun _ hk => XS.ifNo X1.here hx rfl (hb hby d3_7) rfl ((if0 _ _).trans (flt (show ¬ ((lcmpW q2 (1 : Int64)) < (0 : Int32)) from (own_pos p2))).1) hk) ?_
  refine own_st (V := T1.setTop (mkF m 11 #[.val (.ref a1), .val (.long q2), .second, .val (.long q3), .second] [(.long q3)])) (fun _ hk => XS.lloadN X1.here hx rfl (hb hby d3_10) rfl  hk) ?_
  refine own_st (V := T1.setTop (mkF m 12 #[.val (.ref a1), .val (.long q2), .second, .val (.long q3), .second] [(.long (1 : Int64)), (.long q3)])) (fun _ hk => XS.lconst X1.here hx rfl (hb hby d3_11) hk) ?_
  refine own_st (V := T1.setTop (mkF m 13 #[.val (.ref a1), .val (.long q2), .second, .val (.long q3), .second] [(.int (lcmpW q3 (1 : Int64)))])) (fun _ hk => XS.lcmp X1.here hx rfl (hb hby d3_12) rfl hk) ?_
  refine own_st (V := T1.setTop (mkF m 47 #[.val (.ref a1), .val (.long q2), .second, .val (.long q3), .second] [])) (fun _ hk => XS.ifYes X1.here hx rfl (pc0 := 13) (pc' := 47) rfl (hb hby d3_13) rfl ((if0 _ _).trans (flt (show ¬ ((lcmpW q3 (1 : Int64)) < (0 : Int32)) from (own_pos p3))).2.1) (by decide) (by decide) hk) ?_
  refine own_st (V := T1.setTop (mkF m 48 #[.val (.ref a1), .val (.long q2), .second, .val (.long q3), .second] [(.ref a1)])) (fun _ hk => XS.aloadN X1.here hx rfl (hb hby d3_47) rfl rfl hk) ?_
  refine own_st (V := T1.setTop (mkF m 49 #[.val (.ref a1), .val (.long q2), .second, .val (.long q3), .second] [(.long q2), (.ref a1)])) (fun _ hk => XS.lloadN X1.here hx rfl (hb hby d3_48) rfl  hk) ?_
  obtain ⟨T2, h2, X2, e2, W2, st2⟩ := putF X1 hx hZ hown (host := "") (Or.inl (hw _ (List.mem_of_getElem? (i := 18) rfl))) Via.refl e1 F_line E_a1 (Or.inr ⟨(hw _ (List.mem_of_getElem? (i := 19) rfl)), rfl, hnm⟩) (hw _ (List.mem_of_getElem? (i := 10) rfl)) (ty := .long) (by decide) rfl rfl (g := (mkF m 49 #[.val (.ref a1), .val (.long q2), .second, .val (.long q3), .second] [(.long q2), (.ref a1)])) rfl rfl (hb hby d3_49)
  have E_a1 := E_a1.wr W2
  have F_col := F_col.other W2 (Or.inr (slot_ne (Or.inr (hw _ (List.mem_of_getElem? (i := 21) rfl))) (Or.inr (hw _ (List.mem_of_getElem? (i := 19) rfl))) (by decide) (t := .long) (t' := .long) (by decide) (by decide)))
  have F_line := F_line.same W2
  have K := K.wr W2 (Or.inl (List.mem_of_getElem? (i := 0) rfl))
  have N2 := Fr.snoc X2 N0 g_a1
  have Z0 : n0 ≤ h2.size := Nat.le_trans Z0 (Keep.of_wr W2).1
  refine own_st (V := T2.setTop (mkF m 52 #[.val (.ref a1), .val (.long q2), .second, .val (.long q3), .second] [])) st2 ?_
  refine own_st (V := T2.setTop (mkF m 53 #[.val (.ref a1), .val (.long q2), .second, .val (.long q3), .second] [(.ref a1)])) (fun _ hk => XS.aloadN X2.here hx rfl (hb hby d3_52) rfl rfl hk) ?_
  refine own_st (V := T2.setTop (mkF m 54 #[.val (.ref a1), .val (.long q2), .second, .val (.long q3), .second] [(.long q3), (.ref a1)])) (fun _ hk => XS.lloadN X2.here hx rfl (hb hby d3_53) rfl  hk) ?_
  obtain ⟨T3, h3, X3, e3, W3, st3⟩ := putF X2 hx hZ hown (host := "") (Or.inl (hw _ (List.mem_of_getElem? (i := 20) rfl))) Via.refl e2 F_col E_a1 (Or.inr ⟨(hw _ (List.mem_of_getElem? (i := 21) rfl)), rfl, hnm⟩) (hw _ (List.mem_of_getElem? (i := 10) rfl)) (ty := .long) (by decide) rfl rfl (g := (mkF m 54 #[.val (.ref a1), .val (.long q2), .second, .val (.long q3), .second] [(.long q3), (.ref a1)])) rfl rfl (hb hby d3_54)
  have E_a1 := E_a1.wr W3
  have F_line := F_line.other W3 (Or.inr (slot_ne (Or.inr (hw _ (List.mem_of_getElem? (i := 19) rfl))) (Or.inr (hw _ (List.mem_of_getElem? (i := 21) rfl))) (by decide) (t := .long) (t' := .long) (by decide) (by decide)))
  have F_col := F_col.same W3
  have K := K.wr W3 (Or.inl (List.mem_of_getElem? (i := 0) rfl))
  have N3 := Fr.snoc X3 N2 g_a1
  have Z0 : n0 ≤ h3.size := Nat.le_trans Z0 (Keep.of_wr W3).1
  refine own_st (V := T3.setTop (mkF m 57 #[.val (.ref a1), .val (.long q2), .second, .val (.long q3), .second] [])) st3 ?_
  exact own_retV X3 hx Bd.notSynchronized Bd.returns (hb hby d3_57) (by decide) (by decide) (fun U hU hE => hF _ _ ⟨_, _, rfl, (by rw [hU, e3]; exact ⟨rfl, N3, K, E_a1, F_line, F_col⟩), hE⟩)
theorem d8_0 : decode jdk_18_method_1_code 0 = .ok (.aload_n 0, 1) := by decide +kernel
theorem d8_1 : decode jdk_18_method_1_code 1 = .ok (.invokespecial 1, 3) := by decide +kernel
theorem d8_4 : decode jdk_18_method_1_code 4 = .ok (.return_, 1) := by decide +kernel
theorem own_pn_java_lang_Number : plainName "java/lang/Number" = true := by first | (simp [plainName, overriddenIn]; done) | decide +kernel
theorem own_ef_number (m : MethodId) (x0 : Addr) : entryFrame m #[(.ref x0)] 1 = mkF m 0 #[.val (.ref x0)] [] := by first | (simp [entryFrame, mkF, argsToLocals, Value.category]; done) | rfl
def Q_number (Z : State) (a1 : Addr) (h0 : Heap) (n0 : Nat) (v : Option Value) (h : Heap) (L : List Loc) : Prop := v = none ∧ Fr n0 L ∧ h = h0
set_option maxRecDepth 65536 in
set_option maxHeartbeats 40000000 in
theorem rm_number (l : Launch) (Z : State) (a0 : Array Value) (hw : ∀ d ∈ tables_1, d.before a0 Z = true) (ws : List Jvm.Cond) (a1 : Addr) (h0 : Heap) (n0 : Nat) (Z0 : n0 ≤ h0.size)  :
    MetFree l (⟨"java/lang/Number", "<init>", "()V"⟩ : MethodName) (head1 (Jvm.Cond.code (⟨"java/lang/Number", "<init>", "()V"⟩ : MethodName) jdk_18_method_1_code 1 none :: ws) ({ frames := 1, cells := 0, slots := 0, locals := 12 } : Room)) (fun a U => a = #[(.ref a1)] ∧ Z.Warmed39 U.vm ∧ U.heap = h0) (fun _ _ _ _ _ => True) (fun _ U o U' => ∃ v L, o = .returned v ∧ Q_number Z a1 h0 n0 v U'.heap L ∧ FrameEnd U o U' L ({ frames := 1, cells := 0, slots := 0, locals := 12 } : Room).cells ({ frames := 1, cells := 0, slots := 0, locals := 12 } : Room).slots) := by
  refine MetFree.of_bodySF (plainFor_of_name own_pn_java_lang_Number) hisR ?_
  intro p e s m args below meth c s₁ Bd hml0 hP hK
  obtain ⟨rfl, hZ, hh⟩ := hP
  have hx := Bd.exec
  have hby := Bd.bytes
  have hml : c.maxLocals = 1 := hml0
  have hown : s.vm.findClass "java/lang/Number" = some m.cls := findClass_of_methodNamed Bd.named
  have hnm := (name_of_methodNamed Bd.named Bd.method).1
  have X0 : Stand p l e ({ frames := 1, cells := 0, slots := 0, locals := 12 } : Room) s m #[(.ref a1)] below meth c s₁ [] 0 0 := Stand.of_body Bd
  have e0 : s₁.heap = h0 := by rw [← hh, Bd.state]; rfl
  have N0 := Fr.nil n0
  refine own_start (F0 := fun o U' => ∃ v L, o = .returned v ∧ Q_number Z a1 h0 n0 v U'.heap L ∧ FrameEnd s o U' L ({ frames := 1, cells := 0, slots := 0, locals := 12 } : Room).cells ({ frames := 1, cells := 0, slots := 0, locals := 12 } : Room).slots) fun F hF => ?_
  rw [own_ef_number m a1]
  refine own_st (V := s₁.setTop (mkF m 1 #[.val (.ref a1)] [(.ref a1)])) (fun _ hk => XS.aloadN X0.here hx rfl (hb hby d8_0) rfl rfl hk) ?_
  obtain ⟨T1, X1, e1, st1⟩ := initO X0 hx hZ hown (hw _ (List.mem_of_getElem? (i := 52) rfl)) (hw _ (List.mem_of_getElem? (i := 16) rfl)) (hw _ (List.mem_of_getElem? (i := 17) rfl)) e0 (g := (mkF m 1 #[.val (.ref a1)] [(.ref a1)])) rfl (by rw [hml]; rfl) rfl (hb hby d8_1) (by decide) (W := 0) (by show 2 * 0 + _ ≤ _; exact Nat.le_of_eq rfl) (by decide)
  refine own_st (V := T1.setTop (mkF m 4 #[.val (.ref a1)] [])) st1 ?_
  exact own_retV X1 hx Bd.notSynchronized Bd.returns (hb hby d8_4) (by decide) (by decide) (fun U hU hE => hF _ _ ⟨_, _, rfl, (by rw [hU, e1]; exact ⟨rfl, N0, rfl⟩), hE⟩)
theorem d7_0 : decode jdk_35_method_26_code 0 = .ok (.aload_n 0, 1) := by decide +kernel
theorem d7_1 : decode jdk_35_method_26_code 1 = .ok (.invokespecial 270, 3) := by decide +kernel
theorem own_pd1 : parseMethodDescriptor "()V" = some ⟨[], none⟩ := by decide +kernel
theorem d7_4 : decode jdk_35_method_26_code 4 = .ok (.aload_n 0, 1) := by decide +kernel
theorem d7_5 : decode jdk_35_method_26_code 5 = .ok (.lload_n 1, 1) := by decide +kernel
theorem d7_6 : decode jdk_35_method_26_code 6 = .ok (.putfield 273, 3) := by decide +kernel
theorem d7_9 : decode jdk_35_method_26_code 9 = .ok (.return_, 1) := by decide +kernel
theorem own_pn_java_lang_Long : plainName "java/lang/Long" = true := by first | (simp [plainName, overriddenIn]; done) | decide +kernel
theorem own_ef_long (m : MethodId) (x0 : Addr) (x1 : Int64) : entryFrame m #[(.ref x0), (.long x1)] 3 = mkF m 0 #[.val (.ref x0), .val (.long x1), .second] [] := by first | (simp [entryFrame, mkF, argsToLocals, Value.category]; done) | rfl
def Q_long (Z : State) (a1 : Addr) (q2 : Int64) (u1 : Value) (h0 : Heap) (n0 : Nat) (v : Option Value) (h : Heap) (L : List Loc) : Prop := v = none ∧ Fr n0 L ∧ Keep h0 h [a1]
set_option maxRecDepth 65536 in
set_option maxHeartbeats 40000000 in
theorem rm_long (l : Launch) (Z : State) (a0 : Array Value) (hw : ∀ d ∈ tables_1, d.before a0 Z = true) (ws : List Jvm.Cond) (a1 : Addr) (q2 : Int64) (u1 : Value) (h0 : Heap) (n0 : Nat) (Z0 : n0 ≤ h0.size) (E_a1 : Exa Z h0 a1 "java/lang/Long") (F_val : Fld Z h0 a1 "java/lang/Long" "value" "J" u1) (g_a1 : n0 ≤ a1) :
    MetFree l (⟨"java/lang/Long", "<init>", "(J)V"⟩ : MethodName) (head1 (Jvm.Cond.code (⟨"java/lang/Long", "<init>", "(J)V"⟩ : MethodName) jdk_35_method_26_code 3 none :: ws) ({ frames := 2, cells := 0, slots := 0, locals := 24 } : Room)) (fun a U => a = #[(.ref a1), (.long q2)] ∧ Z.Warmed39 U.vm ∧ U.heap = h0) (fun _ _ _ _ _ => True) (fun _ U o U' => ∃ v L, o = .returned v ∧ Q_long Z a1 q2 u1 h0 n0 v U'.heap L ∧ FrameEnd U o U' L ({ frames := 2, cells := 0, slots := 0, locals := 24 } : Room).cells ({ frames := 2, cells := 0, slots := 0, locals := 24 } : Room).slots) := by
  refine MetFree.of_bodySF (plainFor_of_name own_pn_java_lang_Long) hisR ?_
  intro p e s m args below meth c s₁ Bd hml0 hP hK
  obtain ⟨rfl, hZ, hh⟩ := hP
  have hx := Bd.exec
  have hby := Bd.bytes
  have hml : c.maxLocals = 3 := hml0
  have hown : s.vm.findClass "java/lang/Long" = some m.cls := findClass_of_methodNamed Bd.named
  have hnm := (name_of_methodNamed Bd.named Bd.method).1
  have X0 : Stand p l e ({ frames := 2, cells := 0, slots := 0, locals := 24 } : Room) s m #[(.ref a1), (.long q2)] below meth c s₁ [] 0 0 := Stand.of_body Bd
  have e0 : s₁.heap = h0 := by rw [← hh, Bd.state]; rfl
  have N0 := Fr.nil n0
  refine own_start (F0 := fun o U' => ∃ v L, o = .returned v ∧ Q_long Z a1 q2 u1 h0 n0 v U'.heap L ∧ FrameEnd s o U' L ({ frames := 2, cells := 0, slots := 0, locals := 24 } : Room).cells ({ frames := 2, cells := 0, slots := 0, locals := 24 } : Room).slots) fun F hF => ?_
  rw [own_ef_long m a1 q2]
  have K := Keep.refl h0 [a1]
  refine own_st (V := s₁.setTop (mkF m 1 #[.val (.ref a1), .val (.long q2), .second] [(.ref a1)])) (fun _ hk => XS.aloadN X0.here hx rfl (hb hby d7_0) rfl rfl hk) ?_
  obtain ⟨_, _, ⟨T1, L1, k1, n1⟩, -, X1, ⟨Lc1, hQ1, l1, y1, z1⟩, st1⟩ := X0.specialBack hx (y := (⟨"java/lang/Number", "<init>", "()V"⟩ : MethodName)) rfl hown (mvT hZ (hw _ (List.mem_of_getElem? (i := 46) rfl))) (mvT hZ (hw _ (List.mem_of_getElem? (i := 47) rfl))) (mvT hZ (hw _ (List.mem_of_getElem? (i := 51) rfl))) (by decide) (backOf (W := 0) (rm_number l Z a0 hw [] a1 h0 n0 Z0) hZ (hw _ (List.mem_of_getElem? (i := 51) rfl)) (hw _ (List.mem_of_getElem? (i := 50) rfl)) (by decide) (by decide)) (g := (mkF m 1 #[.val (.ref a1), .val (.long q2), .second] [(.ref a1)])) rfl (by rw [hml]; rfl) (Steps.refl _) (a := a1) (argsL := []) (rest := []) (lenOf own_pd1 rfl) rfl (by show 2 * 0 + _ ≤ _; exact Nat.le_of_eq rfl) (hb hby d7_1) (fun _ _ => ⟨rfl, e0, (by decide : 0 + 0 ≤ _), (by decide : 0 + 0 ≤ _)⟩)
  dsimp only [Pt.U, Pt.locs, Pt.cells, Pt.slots] at X1 l1 y1 z1 st1 hQ1
  subst l1 y1 z1
  obtain ⟨rfl, N1q, es1⟩ := hQ1
  have N1 := Fr.app N0 N1q
  refine own_tr (V := T1.setTop (mkF m 4 #[.val (.ref a1), .val (.long q2), .second] [])) st1 ?_
  refine own_st (V := T1.setTop (mkF m 5 #[.val (.ref a1), .val (.long q2), .second] [(.ref a1)])) (fun _ hk => XS.aloadN X1.here hx rfl (hb hby d7_4) rfl rfl hk) ?_
  refine own_st (V := T1.setTop (mkF m 6 #[.val (.ref a1), .val (.long q2), .second] [(.long q2), (.ref a1)])) (fun _ hk => XS.lloadN X1.here hx rfl (hb hby d7_5) rfl  hk) ?_
  obtain ⟨T2, h2, X2, e2, W2, st2⟩ := putF X1 hx hZ hown (host := "") (Or.inl (hw _ (List.mem_of_getElem? (i := 53) rfl))) Via.refl es1 F_val E_a1 (Or.inr ⟨(hw _ (List.mem_of_getElem? (i := 54) rfl)), rfl, hnm⟩) (hw _ (List.mem_of_getElem? (i := 41) rfl)) (ty := .long) (by decide) rfl rfl (g := (mkF m 6 #[.val (.ref a1), .val (.long q2), .second] [(.long q2), (.ref a1)])) rfl rfl (hb hby d7_6)
  have E_a1 := E_a1.wr W2
  have F_val := F_val.same W2
  have K := K.wr W2 (Or.inl (List.mem_of_getElem? (i := 0) rfl))
  have N2 := Fr.snoc X2 N1 g_a1
  have Z0 : n0 ≤ h2.size := Nat.le_trans Z0 (Keep.of_wr W2).1
  refine own_st (V := T2.setTop (mkF m 9 #[.val (.ref a1), .val (.long q2), .second] [])) st2 ?_
  exact own_retV X2 hx Bd.notSynchronized Bd.returns (hb hby d7_9) (by decide) (by decide) (fun U hU hE => hF _ _ ⟨_, _, rfl, (by rw [hU, e2]; exact ⟨rfl, N2, K⟩), hE⟩)
def own_cache (Z : State) (ca : Addr) : Prop := Sta Z Z.heap "java/lang/Long$LongCache" "cache" "[Ljava/lang/Long;" (.ref ca) ∧ ∃ cl : Cell, Arr Z Z.heap ca cl (.object "java/lang/Long") ∧ cl.slots.size = 256 ∧ ∀ j : Int32, ¬ (j < 0 ∨ cl.slots.size ≤ j.toNatClampNeg) → ∃ r, cl.slots[j.toNatClampNeg]? = some (.ref r) ∧ Exa Z Z.heap r "java/lang/Long"
theorem own_idx {q : Int64} (h1 : ¬ q < 1) (h2 : ¬ (127 : Int64) < q) : ¬ (q.toInt32 + (128 : Int32) < 0 ∨ 256 ≤ (q.toInt32 + (128 : Int32)).toNatClampNeg) := by
  have a1 := c_l2i q
  have a2 := c_iadd q.toInt32 128
  have a3 := rng32 (q.toInt32 + 128)
  have a4 := rng32 q.toInt32
  have e1 : (128 : Int32).toInt = 128 := by decide
  have e2 : (1 : Int64).toInt = 1 := by decide
  have e3 : (127 : Int64).toInt = 127 := by decide
  simp only [Int64.lt_iff_toInt_lt, e2, e3] at h1 h2
  rw [e1] at a2
  simp only [Int32.lt_iff_toInt_lt, Int32.toNatClampNeg, Int32.reduceToInt]
  omega
theorem d5_0 : decode jdk_35_method_24_code 0 = .ok (.sipush 128, 3) := by decide +kernel
theorem d5_3 : decode jdk_35_method_24_code 3 = .ok (.istore_n 2, 1) := by decide +kernel
theorem d5_4 : decode jdk_35_method_24_code 4 = .ok (.lload_n 0, 1) := by decide +kernel
theorem d5_5 : decode jdk_35_method_24_code 5 = .ok (.ldc2_w 230, 3) := by decide +kernel
theorem d5_8 : decode jdk_35_method_24_code 8 = .ok (.lcmp, 1) := by decide +kernel
theorem d5_9 : decode jdk_35_method_24_code 9 = .ok (.ifCond .lt 22, 3) := by decide +kernel
theorem d5_12 : decode jdk_35_method_24_code 12 = .ok (.lload_n 0, 1) := by decide +kernel
theorem d5_13 : decode jdk_35_method_24_code 13 = .ok (.ldc2_w 232, 3) := by decide +kernel
theorem d5_16 : decode jdk_35_method_24_code 16 = .ok (.lcmp, 1) := by decide +kernel
theorem d5_17 : decode jdk_35_method_24_code 17 = .ok (.ifCond .gt 14, 3) := by decide +kernel
theorem d5_31 : decode jdk_35_method_24_code 31 = .ok (.new 1, 3) := by decide +kernel
theorem d5_34 : decode jdk_35_method_24_code 34 = .ok (.dup, 1) := by decide +kernel
theorem d5_35 : decode jdk_35_method_24_code 35 = .ok (.lload_n 0, 1) := by decide +kernel
theorem d5_36 : decode jdk_35_method_24_code 36 = .ok (.invokespecial 240, 3) := by decide +kernel
theorem own_pd2 : parseMethodDescriptor "(J)V" = some ⟨[.long], none⟩ := by decide +kernel
theorem d5_39 : decode jdk_35_method_24_code 39 = .ok (.areturn, 1) := by decide +kernel
theorem d5_20 : decode jdk_35_method_24_code 20 = .ok (.getstatic 234, 3) := by decide +kernel
theorem d5_23 : decode jdk_35_method_24_code 23 = .ok (.lload_n 0, 1) := by decide +kernel
theorem d5_24 : decode jdk_35_method_24_code 24 = .ok (.l2i, 1) := by decide +kernel
theorem d5_25 : decode jdk_35_method_24_code 25 = .ok (.sipush 128, 3) := by decide +kernel
theorem d5_28 : decode jdk_35_method_24_code 28 = .ok (.iadd, 1) := by decide +kernel
theorem d5_29 : decode jdk_35_method_24_code 29 = .ok (.aaload, 1) := by decide +kernel
theorem d5_30 : decode jdk_35_method_24_code 30 = .ok (.areturn, 1) := by decide +kernel
theorem own_ef_valueOf (m : MethodId) (x0 : Int64) : entryFrame m #[(.long x0)] 3 = mkF m 0 #[.val (.long x0), .second, .unset] [] := by first | (simp [entryFrame, mkF, argsToLocals, Value.category]; done) | rfl
def Q_valueOf (Z : State) (q1 : Int64) (ca : Addr) (h0 : Heap) (n0 : Nat) (v : Option Value) (h : Heap) (L : List Loc) : Prop := ∃ r, v = some (.ref r) ∧ Fr n0 L ∧ Keep h0 h [] ∧ Exa Z h r "java/lang/Long"
set_option maxRecDepth 65536 in
set_option maxHeartbeats 40000000 in
theorem rm_valueOf (l : Launch) (Z : State) (a0 : Array Value) (hw : ∀ d ∈ tables_1, d.before a0 Z = true) (ws : List Jvm.Cond) (q1 : Int64) (ca : Addr) (h0 : Heap) (n0 : Nat) (Z0 : n0 ≤ h0.size) (O : Old Z n0 h0) (p1 : ¬ q1 < 1) (hca : own_cache Z ca) :
    MetFree l (⟨"java/lang/Long", "valueOf", "(J)Ljava/lang/Long;"⟩ : MethodName) (head1 (Jvm.Cond.code (⟨"java/lang/Long", "valueOf", "(J)Ljava/lang/Long;"⟩ : MethodName) jdk_35_method_24_code 3 (some (.object "java/lang/Long")) :: ws) ({ frames := 3, cells := 1, slots := 1, locals := 39 } : Room)) (fun a U => a = #[(.long q1)] ∧ Z.Warmed39 U.vm ∧ U.heap = h0) (fun _ _ _ _ _ => True) (fun _ U o U' => ∃ v L, o = .returned v ∧ Q_valueOf Z q1 ca h0 n0 v U'.heap L ∧ FrameEnd U o U' L ({ frames := 3, cells := 1, slots := 1, locals := 39 } : Room).cells ({ frames := 3, cells := 1, slots := 1, locals := 39 } : Room).slots) := by
  refine MetFree.of_bodySF (plainFor_of_name own_pn_java_lang_Long) hisR ?_
  intro p e s m args below meth c s₁ Bd hml0 hP hK
  obtain ⟨rfl, hZ, hh⟩ := hP
  have hx := Bd.exec
  have hby := Bd.bytes
  have hml : c.maxLocals = 3 := hml0
  have hown : s.vm.findClass "java/lang/Long" = some m.cls := findClass_of_methodNamed Bd.named
  have hnm := (name_of_methodNamed Bd.named Bd.method).1
  have X0 : Stand p l e ({ frames := 3, cells := 1, slots := 1, locals := 39 } : Room) s m #[(.long q1)] below meth c s₁ [] 0 0 := Stand.of_body Bd
  have e0 : s₁.heap = h0 := by rw [← hh, Bd.state]; rfl
  have N0 := Fr.nil n0
  refine own_start (F0 := fun o U' => ∃ v L, o = .returned v ∧ Q_valueOf Z q1 ca h0 n0 v U'.heap L ∧ FrameEnd s o U' L ({ frames := 3, cells := 1, slots := 1, locals := 39 } : Room).cells ({ frames := 3, cells := 1, slots := 1, locals := 39 } : Room).slots) fun F hF => ?_
  rw [own_ef_valueOf m q1]
  have K := Keep.refl h0 []
  obtain ⟨hSta, cl, hArr, hsz, hel⟩ := hca
  refine own_st (V := s₁.setTop (mkF m 3 #[.val (.long q1), .second, .unset] [(.int (128 : Int32))])) (fun _ hk => XS.sipush X0.here hx rfl (hb hby d5_0) hk) ?_
  refine own_st (V := s₁.setTop (mkF m 4 #[.val (.long q1), .second, .val (.int (128 : Int32))] [])) (fun _ hk => XS.istoreN X0.here hx rfl (hb hby d5_3) rfl  (l' := #[.val (.long q1), .second, .val (.int (128 : Int32))]) rfl hk) ?_
  refine own_st (V := s₁.setTop (mkF m 5 #[.val (.long q1), .second, .val (.int (128 : Int32))] [(.long q1)])) (fun _ hk => XS.lloadN X0.here hx rfl (hb hby d5_4) rfl  hk) ?_
  refine own_st (V := s₁.setTop (mkF m 8 #[.val (.long q1), .second, .val (.int (128 : Int32))] [(.long (-128 : Int64)), (.long q1)])) (X0.ldc2Long hx hown (mvT hZ (hw _ (List.mem_of_getElem? (i := 26) rfl))) (g := (mkF m 5 #[.val (.long q1), .second, .val (.int (128 : Int32))] [(.long q1)])) rfl (hb hby d5_5)) ?_
  refine own_st (V := s₁.setTop (mkF m 9 #[.val (.long q1), .second, .val (.int (128 : Int32))] [(.int (lcmpW q1 (-128 : Int64)))])) (fun _ hk => XS.lcmp X0.here hx rfl (hb hby d5_8) rfl hk) ?_
  refine own_st (V := s₁.setTop (mkF m 12 #[.val (.long q1), .second, .val (.int (128 : Int32))] [])) (fun _ hk => XS.ifNo X0.here hx rfl (hb hby d5_9) rfl ((if0 _ _).trans (flt (show ¬ ((lcmpW q1 (-128 : Int64)) < (0 : Int32)) from (own_m128 p1))).1) hk) ?_
  refine own_st (V := s₁.setTop (mkF m 13 #[.val (.long q1), .second, .val (.int (128 : Int32))] [(.long q1)])) (fun _ hk => XS.lloadN X0.here hx rfl (hb hby d5_12) rfl  hk) ?_
  refine own_st (V := s₁.setTop (mkF m 16 #[.val (.long q1), .second, .val (.int (128 : Int32))] [(.long (127 : Int64)), (.long q1)])) (X0.ldc2Long hx hown (mvT hZ (hw _ (List.mem_of_getElem? (i := 27) rfl))) (g := (mkF m 13 #[.val (.long q1), .second, .val (.int (128 : Int32))] [(.long q1)])) rfl (hb hby d5_13)) ?_
  refine own_st (V := s₁.setTop (mkF m 17 #[.val (.long q1), .second, .val (.int (128 : Int32))] [(.int (lcmpW q1 (127 : Int64)))])) (fun _ hk => XS.lcmp X0.here hx rfl (hb hby d5_16) rfl hk) ?_
  by_cases hc17 : (0 : Int32) < (lcmpW q1 (127 : Int64))
  · skip
    refine own_st (V := s₁.setTop (mkF m 31 #[.val (.long q1), .second, .val (.int (128 : Int32))] [])) (fun _ hk => XS.ifYes X0.here hx rfl (pc0 := 17) (pc' := 31) rfl (hb hby d5_17) rfl ((if0 _ _).trans (tlt (show (0 : Int32) < (lcmpW q1 (127 : Int64)) from hc17)).2.2.1) (by decide) (by decide) hk) ?_
    obtain ⟨T1, h1, X1, e1, E1, A1, D1, -, st1⟩ := newO X0 hx hZ hown (hw _ (List.mem_of_getElem? (i := 40) rfl)) (hw _ (List.mem_of_getElem? (i := 41) rfl)) (hw _ (List.mem_of_getElem? (i := 24) rfl)) e0 (g := (mkF m 31 #[.val (.long q1), .second, .val (.int (128 : Int32))] [])) rfl (hb hby d5_31) (by decide) (by decide)
    obtain ⟨b1, g1⟩ : ∃ z, z = h0.size := ⟨_, rfl⟩
    rw [← g1] at A1 D1 st1
    have g_b1 : n0 ≤ b1 := Nat.le_trans Z0 (Nat.le_of_eq g1.symm)
    have sz_b1 : h0.size ≤ b1 := Nat.le_trans K.1 (Nat.le_of_eq g1.symm)
    have O := O.ext E1
    have K := K.ext E1
    have Z0 : n0 ≤ h1.size := Nat.le_trans Z0 E1.1
    have E_b1 := A1
    have F_value_b1 : Fld Z h1 b1 "java/lang/Long" "value" "J" (.long (0 : Int64)) := D1 (Or.inr (hw _ (List.mem_of_getElem? (i := 54) rfl))) (ty := .long) (by decide)
    refine own_st (V := T1.setTop (mkF m 34 #[.val (.long q1), .second, .val (.int (128 : Int32))] [(.ref b1)])) st1 ?_
    refine own_st (V := T1.setTop (mkF m 35 #[.val (.long q1), .second, .val (.int (128 : Int32))] [(.ref b1), (.ref b1)])) (fun _ hk => XS.dup X1.here hx rfl (hb hby d5_34) rfl rfl hk) ?_
    refine own_st (V := T1.setTop (mkF m 36 #[.val (.long q1), .second, .val (.int (128 : Int32))] [(.long q1), (.ref b1), (.ref b1)])) (fun _ hk => XS.lloadN X1.here hx rfl (hb hby d5_35) rfl  hk) ?_
    obtain ⟨_, _, ⟨T2, L2, k2, n2⟩, -, X2, ⟨Lc2, hQ2, l2, y2, z2⟩, st2⟩ := X1.specialBack hx (y := (⟨"java/lang/Long", "<init>", "(J)V"⟩ : MethodName)) rfl hown (mvT hZ (hw _ (List.mem_of_getElem? (i := 42) rfl))) (mvT hZ (hw _ (List.mem_of_getElem? (i := 43) rfl))) (mvT hZ (hw _ (List.mem_of_getElem? (i := 45) rfl))) (by decide) (backOf (W := 1) (rm_long l Z a0 hw [] b1 q1 _ h1 n0 Z0 E_b1 F_value_b1 g_b1) hZ (hw _ (List.mem_of_getElem? (i := 45) rfl)) (hw _ (List.mem_of_getElem? (i := 24) rfl)) (by decide) (by decide)) (g := (mkF m 36 #[.val (.long q1), .second, .val (.int (128 : Int32))] [(.long q1), (.ref b1), (.ref b1)])) rfl (by rw [hml]; rfl) (Steps.refl _) (a := b1) (argsL := [(.long q1)]) (rest := [(.ref b1)]) (lenOf own_pd2 rfl) rfl (by show 2 * 0 + _ ≤ _; exact Nat.le_of_eq rfl) (hb hby d5_36) (fun _ _ => ⟨rfl, e1, (by decide : 1 + 0 ≤ _), (by decide : 1 + 0 ≤ _)⟩)
    dsimp only [Pt.U, Pt.locs, Pt.cells, Pt.slots] at X2 l2 y2 z2 st2 hQ2
    subst l2 y2 z2
    obtain ⟨rfl, N2q, Kc⟩ := hQ2
    have N2 := Fr.app N0 N2q
    refine own_tr (V := T2.setTop (mkF m 39 #[.val (.long q1), .second, .val (.int (128 : Int32))] [(.ref b1)])) st2 ?_
    have E_b1 := E_b1.keep Kc
    have Z0 : n0 ≤ T2.heap.size := Nat.le_trans Z0 Kc.1
    have O := O.keep Kc (allS g_b1 all0)
    have K := K.trans Kc (allS (Or.inr sz_b1) all0)
    exact own_retA X2 hx Bd.notSynchronized Bd.returns rfl rfl (hb hby d5_39) (by decide) (by decide) (fun U hU hE => hF _ _ ⟨_, _, rfl, (by rw [hU]; exact ⟨_, rfl, N2, K, E_b1⟩), hE⟩)
  · skip
    refine own_st (V := s₁.setTop (mkF m 20 #[.val (.long q1), .second, .val (.int (128 : Int32))] [])) (fun _ hk => XS.ifNo X0.here hx rfl (hb hby d5_17) rfl ((if0 _ _).trans (flt (show ¬ ((0 : Int32) < (lcmpW q1 (127 : Int64))) from hc17)).2.2.1) hk) ?_
    have hq : ¬ (127 : Int64) < q1 := fun k => hc17 ((lw_gt _ _).mpr k)
    have hj := own_idx p1 hq
    rw [← hsz] at hj
    obtain ⟨r, hr1, hr2⟩ := hel _ hj
    have hAr := hArr.ext O.2
    obtain ⟨T3, X3, e3, st3⟩ := getS2 X0 hx hZ hown (host := "") (Or.inl (hw _ (List.mem_of_getElem? (i := 28) rfl))) Via.refl e0 (hSta.ext O.2) (g := (mkF m 20 #[.val (.long q1), .second, .val (.int (128 : Int32))] [])) rfl (hb hby d5_20)
    refine own_st (V := T3.setTop (mkF m 23 #[.val (.long q1), .second, .val (.int (128 : Int32))] [(.ref ca)])) st3 ?_
    refine own_st (V := T3.setTop (mkF m 24 #[.val (.long q1), .second, .val (.int (128 : Int32))] [(.long q1), (.ref ca)])) (fun _ hk => XS.lloadN X3.here hx rfl (hb hby d5_23) rfl  hk) ?_
    refine own_st (V := T3.setTop (mkF m 25 #[.val (.long q1), .second, .val (.int (128 : Int32))] [(.int (q1.toInt32)), (.ref ca)])) (fun _ hk => XS.l2i X3.here hx rfl (hb hby d5_24) rfl hk) ?_
    refine own_st (V := T3.setTop (mkF m 28 #[.val (.long q1), .second, .val (.int (128 : Int32))] [(.int (128 : Int32)), (.int (q1.toInt32)), (.ref ca)])) (fun _ hk => XS.sipush X3.here hx rfl (hb hby d5_25) hk) ?_
    refine own_st (V := T3.setTop (mkF m 29 #[.val (.long q1), .second, .val (.int (128 : Int32))] [(.int ((q1.toInt32) + (128 : Int32))), (.ref ca)])) (fun _ hk => XS.iadd X3.here hx rfl (hb hby d5_28) rfl hk) ?_
    refine own_st (V := T3.setTop (mkF m 30 #[.val (.long q1), .second, .val (.int (128 : Int32))] [(.ref r)])) (X3.aaload hx (j := ((q1.toInt32) + (128 : Int32))) (v := (.ref r)) (by rw [e3]; exact hAr.1) (State.isArrayOf_alike hZ.alike hAr.2.1) rfl hAr.2.2 hj hr1 (g := (mkF m 29 #[.val (.long q1), .second, .val (.int (128 : Int32))] [(.int ((q1.toInt32) + (128 : Int32))), (.ref ca)])) rfl rfl (hb hby d5_29)) ?_
    exact own_retA X3 hx Bd.notSynchronized Bd.returns rfl rfl (hb hby d5_30) (by decide) (by decide) (fun U hU hE => hF _ _ ⟨_, _, rfl, (by rw [hU, e3]; exact ⟨_, rfl, N0, K, hr2.ext O.2⟩), hE⟩)
theorem d6_0 : decode prog_184_method_4_code 0 = .ok (.aload_n 1, 1) := by decide +kernel
theorem d6_1 : decode prog_184_method_4_code 1 = .ok (.instanceof 27, 3) := by decide +kernel
theorem d6_4 : decode prog_184_method_4_code 4 = .ok (.ifCond .ne 5, 3) := by decide +kernel
theorem d6_9 : decode prog_184_method_4_code 9 = .ok (.aload_n 1, 1) := by decide +kernel
theorem d6_10 : decode prog_184_method_4_code 10 = .ok (.checkcast 27, 3) := by decide +kernel
theorem d6_13 : decode prog_184_method_4_code 13 = .ok (.astore_n 2, 1) := by decide +kernel
theorem d6_14 : decode prog_184_method_4_code 14 = .ok (.aload_n 0, 1) := by decide +kernel
theorem d6_15 : decode prog_184_method_4_code 15 = .ok (.getfield 26, 3) := by decide +kernel
theorem d6_18 : decode prog_184_method_4_code 18 = .ok (.aload_n 2, 1) := by decide +kernel
theorem d6_19 : decode prog_184_method_4_code 19 = .ok (.getfield 26, 3) := by decide +kernel
theorem d6_22 : decode prog_184_method_4_code 22 = .ok (.lcmp, 1) := by decide +kernel
theorem d6_23 : decode prog_184_method_4_code 23 = .ok (.ifCond .ne 19, 3) := by decide +kernel
theorem d6_26 : decode prog_184_method_4_code 26 = .ok (.aload_n 0, 1) := by decide +kernel
theorem d6_27 : decode prog_184_method_4_code 27 = .ok (.getfield 32, 3) := by decide +kernel
theorem d6_30 : decode prog_184_method_4_code 30 = .ok (.aload_n 2, 1) := by decide +kernel
theorem d6_31 : decode prog_184_method_4_code 31 = .ok (.getfield 32, 3) := by decide +kernel
theorem d6_34 : decode prog_184_method_4_code 34 = .ok (.lcmp, 1) := by decide +kernel
theorem d6_35 : decode prog_184_method_4_code 35 = .ok (.ifCond .ne 7, 3) := by decide +kernel
theorem d6_38 : decode prog_184_method_4_code 38 = .ok (.iconst 1, 1) := by decide +kernel
theorem d6_39 : decode prog_184_method_4_code 39 = .ok (.goto 4, 3) := by decide +kernel
theorem d6_43 : decode prog_184_method_4_code 43 = .ok (.ireturn, 1) := by decide +kernel
theorem d6_42 : decode prog_184_method_4_code 42 = .ok (.iconst 0, 1) := by decide +kernel
theorem own_ef_eqO (m : MethodId) (x0 : Addr) (x1 : Addr) : entryFrame m #[(.ref x0), (.ref x1)] 3 = mkF m 0 #[.val (.ref x0), .val (.ref x1), .unset] [] := by first | (simp [entryFrame, mkF, argsToLocals, Value.category]; done) | rfl
def Q_eqO (Z : State) (a1 a2 : Addr) (x1 y1 x2 y2 : Int64) (h0 : Heap) (n0 : Nat) (v : Option Value) (h : Heap) (L : List Loc) : Prop := v = some (.int (own_b x1 y1 x2 y2)) ∧ Fr n0 L ∧ h = h0
set_option maxRecDepth 65536 in
set_option maxHeartbeats 40000000 in
theorem rm_eqO (l : Launch) (Z : State) (a0 : Array Value) (hw : ∀ d ∈ tables_1, d.before a0 Z = true) (ws : List Jvm.Cond) (a1 a2 : Addr) (x1 y1 x2 y2 : Int64) (h0 : Heap) (n0 : Nat) (Z0 : n0 ≤ h0.size) (E_a2 : Exa Z h0 a2 "com/example/heapwright/heapwright/logic/smtlib/SourcePosition") (F1l : Fld Z h0 a1 "com/example/heapwright/heapwright/logic/smtlib/SourcePosition" "line" "J" (.long x1)) (F1c : Fld Z h0 a1 "com/example/heapwright/heapwright/logic/smtlib/SourcePosition" "column" "J" (.long y1)) (F2l : Fld Z h0 a2 "com/example/heapwright/heapwright/logic/smtlib/SourcePosition" "line" "J" (.long x2)) (F2c : Fld Z h0 a2 "com/example/heapwright/heapwright/logic/smtlib/SourcePosition" "column" "J" (.long y2)) :
    MetFree l (⟨"com/example/heapwright/heapwright/logic/smtlib/SourcePosition", "equals", "(Ljava/lang/Object;)Z"⟩ : MethodName) (head1 (Jvm.Cond.code (⟨"com/example/heapwright/heapwright/logic/smtlib/SourcePosition", "equals", "(Ljava/lang/Object;)Z"⟩ : MethodName) prog_184_method_4_code 3 (some .boolean) :: ws) ({ frames := 0, cells := 0, slots := 0, locals := 0 } : Room)) (fun a U => a = #[(.ref a1), (.ref a2)] ∧ Z.Warmed39 U.vm ∧ U.heap = h0) (fun _ _ _ _ _ => True) (fun _ U o U' => ∃ v L, o = .returned v ∧ Q_eqO Z a1 a2 x1 y1 x2 y2 h0 n0 v U'.heap L ∧ FrameEnd U o U' L ({ frames := 0, cells := 0, slots := 0, locals := 0 } : Room).cells ({ frames := 0, cells := 0, slots := 0, locals := 0 } : Room).slots) := by
  refine MetFree.of_bodySF (plainFor_of_name own_pn_com_example_heapwright_heapwright_logic_smtlib_SourcePosition) hisR ?_
  intro p e s m args below meth c s₁ Bd hml0 hP hK
  obtain ⟨rfl, hZ, hh⟩ := hP
  have hx := Bd.exec
  have hby := Bd.bytes
  have hml : c.maxLocals = 3 := hml0
  have hown : s.vm.findClass "com/example/heapwright/heapwright/logic/smtlib/SourcePosition" = some m.cls := findClass_of_methodNamed Bd.named
  have hnm := (name_of_methodNamed Bd.named Bd.method).1
  have X0 : Stand p l e ({ frames := 0, cells := 0, slots := 0, locals := 0 } : Room) s m #[(.ref a1), (.ref a2)] below meth c s₁ [] 0 0 := Stand.of_body Bd
  have e0 : s₁.heap = h0 := by rw [← hh, Bd.state]; rfl
  have N0 := Fr.nil n0
  refine own_start (F0 := fun o U' => ∃ v L, o = .returned v ∧ Q_eqO Z a1 a2 x1 y1 x2 y2 h0 n0 v U'.heap L ∧ FrameEnd s o U' L ({ frames := 0, cells := 0, slots := 0, locals := 0 } : Room).cells ({ frames := 0, cells := 0, slots := 0, locals := 0 } : Room).slots) fun F hF => ?_
  rw [own_ef_eqO m a1 a2]
  refine own_st (V := s₁.setTop (mkF m 1 #[.val (.ref a1), .val (.ref a2), .unset] [(.ref a2)])) (fun _ hk => XS.aloadN X0.here hx rfl (hb hby d6_0) rfl rfl hk) ?_
  obtain ⟨T1, X1, e1, st1⟩ := instY X0 hx hZ hown (hw _ (List.mem_of_getElem? (i := 35) rfl)) e0 (Ins.self E_a2) (g := (mkF m 1 #[.val (.ref a1), .val (.ref a2), .unset] [(.ref a2)])) rfl rfl (hb hby d6_1)
  refine own_st (V := T1.setTop (mkF m 4 #[.val (.ref a1), .val (.ref a2), .unset] [(.int (1 : Int32))])) st1 ?_
  refine own_st (V := T1.setTop (mkF m 9 #[.val (.ref a1), .val (.ref a2), .unset] [])) (fun _ hk => XS.ifYes X1.here hx rfl (pc0 := 4) (pc' := 9) rfl (hb hby d6_4) rfl ((if0 _ _).trans (feq (show ¬ ((1 : Int32) = (0 : Int32)) from (by decide))).2) (by decide) (by decide) hk) ?_
  refine own_st (V := T1.setTop (mkF m 10 #[.val (.ref a1), .val (.ref a2), .unset] [(.ref a2)])) (fun _ hk => XS.aloadN X1.here hx rfl (hb hby d6_9) rfl rfl hk) ?_
  obtain ⟨T2, X2, e2, st2⟩ := castY X1 hx hZ hown (hw _ (List.mem_of_getElem? (i := 35) rfl)) e1 (Ins.self E_a2) (g := (mkF m 10 #[.val (.ref a1), .val (.ref a2), .unset] [(.ref a2)])) rfl rfl (hb hby d6_10)
  refine own_st (V := T2.setTop (mkF m 13 #[.val (.ref a1), .val (.ref a2), .unset] [(.ref a2)])) st2 ?_
  refine own_st (V := T2.setTop (mkF m 14 #[.val (.ref a1), .val (.ref a2), .val (.ref a2)] [])) (fun _ hk => XS.astoreN X2.here hx rfl (hb hby d6_13) rfl rfl (l' := #[.val (.ref a1), .val (.ref a2), .val (.ref a2)]) rfl hk) ?_
  refine own_st (V := T2.setTop (mkF m 15 #[.val (.ref a1), .val (.ref a2), .val (.ref a2)] [(.ref a1)])) (fun _ hk => XS.aloadN X2.here hx rfl (hb hby d6_14) rfl rfl hk) ?_
  obtain ⟨T3, X3, e3, st3⟩ := getF X2 hx hZ hown (host := "") (Or.inl (hw _ (List.mem_of_getElem? (i := 18) rfl))) Via.refl e2 F1l (g := (mkF m 15 #[.val (.ref a1), .val (.ref a2), .val (.ref a2)] [(.ref a1)])) rfl rfl (hb hby d6_15)
  refine own_st (V := T3.setTop (mkF m 18 #[.val (.ref a1), .val (.ref a2), .val (.ref a2)] [(.long x1)])) st3 ?_
  refine own_st (V := T3.setTop (mkF m 19 #[.val (.ref a1), .val (.ref a2), .val (.ref a2)] [(.ref a2), (.long x1)])) (fun _ hk => XS.aloadN X3.here hx rfl (hb hby d6_18) rfl rfl hk) ?_
  obtain ⟨T4, X4, e4, st4⟩ := getF X3 hx hZ hown (host := "") (Or.inl (hw _ (List.mem_of_getElem? (i := 18) rfl))) Via.refl e3 F2l (g := (mkF m 19 #[.val (.ref a1), .val (.ref a2), .val (.ref a2)] [(.ref a2), (.long x1)])) rfl rfl (hb hby d6_19)
  refine own_st (V := T4.setTop (mkF m 22 #[.val (.ref a1), .val (.ref a2), .val (.ref a2)] [(.long x2), (.long x1)])) st4 ?_
  refine own_st (V := T4.setTop (mkF m 23 #[.val (.ref a1), .val (.ref a2), .val (.ref a2)] [(.int (lcmpW x1 x2))])) (fun _ hk => XS.lcmp X4.here hx rfl (hb hby d6_22) rfl hk) ?_
  by_cases hc23 : (lcmpW x1 x2) = (0 : Int32)
  · skip
    refine own_st (V := T4.setTop (mkF m 26 #[.val (.ref a1), .val (.ref a2), .val (.ref a2)] [])) (fun _ hk => XS.ifNo X4.here hx rfl (hb hby d6_23) rfl ((if0 _ _).trans (teq (show (lcmpW x1 x2) = (0 : Int32) from hc23)).2) hk) ?_
    refine own_st (V := T4.setTop (mkF m 27 #[.val (.ref a1), .val (.ref a2), .val (.ref a2)] [(.ref a1)])) (fun _ hk => XS.aloadN X4.here hx rfl (hb hby d6_26) rfl rfl hk) ?_
    obtain ⟨T5, X5, e5, st5⟩ := getF X4 hx hZ hown (host := "") (Or.inl (hw _ (List.mem_of_getElem? (i := 20) rfl))) Via.refl e4 F1c (g := (mkF m 27 #[.val (.ref a1), .val (.ref a2), .val (.ref a2)] [(.ref a1)])) rfl rfl (hb hby d6_27)
    refine own_st (V := T5.setTop (mkF m 30 #[.val (.ref a1), .val (.ref a2), .val (.ref a2)] [(.long y1)])) st5 ?_
    refine own_st (V := T5.setTop (mkF m 31 #[.val (.ref a1), .val (.ref a2), .val (.ref a2)] [(.ref a2), (.long y1)])) (fun _ hk => XS.aloadN X5.here hx rfl (hb hby d6_30) rfl rfl hk) ?_
    obtain ⟨T6, X6, e6, st6⟩ := getF X5 hx hZ hown (host := "") (Or.inl (hw _ (List.mem_of_getElem? (i := 20) rfl))) Via.refl e5 F2c (g := (mkF m 31 #[.val (.ref a1), .val (.ref a2), .val (.ref a2)] [(.ref a2), (.long y1)])) rfl rfl (hb hby d6_31)
    refine own_st (V := T6.setTop (mkF m 34 #[.val (.ref a1), .val (.ref a2), .val (.ref a2)] [(.long y2), (.long y1)])) st6 ?_
    refine own_st (V := T6.setTop (mkF m 35 #[.val (.ref a1), .val (.ref a2), .val (.ref a2)] [(.int (lcmpW y1 y2))])) (fun _ hk => XS.lcmp X6.here hx rfl (hb hby d6_34) rfl hk) ?_
    by_cases hc35 : (lcmpW y1 y2) = (0 : Int32)
    · skip
      refine own_st (V := T6.setTop (mkF m 38 #[.val (.ref a1), .val (.ref a2), .val (.ref a2)] [])) (fun _ hk => XS.ifNo X6.here hx rfl (hb hby d6_35) rfl ((if0 _ _).trans (teq (show (lcmpW y1 y2) = (0 : Int32) from hc35)).2) hk) ?_
      refine own_st (V := T6.setTop (mkF m 39 #[.val (.ref a1), .val (.ref a2), .val (.ref a2)] [(.int (1 : Int32))])) (fun _ hk => XS.iconst X6.here hx rfl (hb hby d6_38) hk) ?_
      refine own_st (V := T6.setTop (mkF m 43 #[.val (.ref a1), .val (.ref a2), .val (.ref a2)] [(.int (1 : Int32))])) (fun _ hk => XS.goto X6.here hx rfl (pc0 := 39) (pc' := 43) rfl (hb hby d6_39) (by decide) (by decide) hk) ?_
      exact own_retN X6 hx Bd.notSynchronized Bd.returns rfl (by simp) (hb hby d6_43) (by decide) (by decide) (fun U hU hE => hF _ _ ⟨_, _, rfl, (by rw [hU, e6]; exact ⟨(by rw [own_b, if_pos ⟨(lw_eq _ _).mp hc23, (lw_eq _ _).mp hc35⟩]), N0, rfl⟩), hE⟩)
    · skip
      refine own_st (V := T6.setTop (mkF m 42 #[.val (.ref a1), .val (.ref a2), .val (.ref a2)] [])) (fun _ hk => XS.ifYes X6.here hx rfl (pc0 := 35) (pc' := 42) rfl (hb hby d6_35) rfl ((if0 _ _).trans (feq (show ¬ ((lcmpW y1 y2) = (0 : Int32)) from hc35)).2) (by decide) (by decide) hk) ?_
      refine own_st (V := T6.setTop (mkF m 43 #[.val (.ref a1), .val (.ref a2), .val (.ref a2)] [(.int (0 : Int32))])) (fun _ hk => XS.iconst X6.here hx rfl (hb hby d6_42) hk) ?_
      exact own_retN X6 hx Bd.notSynchronized Bd.returns rfl (by simp) (hb hby d6_43) (by decide) (by decide) (fun U hU hE => hF _ _ ⟨_, _, rfl, (by rw [hU, e6]; exact ⟨(by rw [own_b_no2 fun k => hc35 ((lw_eq _ _).mpr k)]), N0, rfl⟩), hE⟩)
  · skip
    refine own_st (V := T4.setTop (mkF m 42 #[.val (.ref a1), .val (.ref a2), .val (.ref a2)] [])) (fun _ hk => XS.ifYes X4.here hx rfl (pc0 := 23) (pc' := 42) rfl (hb hby d6_23) rfl ((if0 _ _).trans (feq (show ¬ ((lcmpW x1 x2) = (0 : Int32)) from hc23)).2) (by decide) (by decide) hk) ?_
    refine own_st (V := T4.setTop (mkF m 43 #[.val (.ref a1), .val (.ref a2), .val (.ref a2)] [(.int (0 : Int32))])) (fun _ hk => XS.iconst X4.here hx rfl (hb hby d6_42) hk) ?_
    exact own_retN X4 hx Bd.notSynchronized Bd.returns rfl (by simp) (hb hby d6_43) (by decide) (by decide) (fun U hU hE => hF _ _ ⟨_, _, rfl, (by rw [hU, e4]; exact ⟨(by rw [own_b_no1 fun k => hc23 ((lw_eq _ _).mpr k)]), N0, rfl⟩), hE⟩)
theorem d6_7 : decode prog_184_method_4_code 7 = .ok (.iconst 0, 1) := by decide +kernel
theorem d6_8 : decode prog_184_method_4_code 8 = .ok (.ireturn, 1) := by decide +kernel
theorem own_ef_eqN (m : MethodId) (x0 : Addr) : entryFrame m #[(.ref x0), .null] 3 = mkF m 0 #[.val (.ref x0), .val .null, .unset] [] := by first | (simp [entryFrame, mkF, argsToLocals, Value.category]; done) | rfl
def Q_eqN (Z : State) (a1 : Addr) (h0 : Heap) (n0 : Nat) (v : Option Value) (h : Heap) (L : List Loc) : Prop := v = some (.int 0) ∧ Fr n0 L ∧ h = h0
set_option maxRecDepth 65536 in
set_option maxHeartbeats 40000000 in
theorem rm_eqN (l : Launch) (Z : State) (a0 : Array Value) (hw : ∀ d ∈ tables_1, d.before a0 Z = true) (ws : List Jvm.Cond) (a1 : Addr) (h0 : Heap) (n0 : Nat) (Z0 : n0 ≤ h0.size)  :
    MetFree l (⟨"com/example/heapwright/heapwright/logic/smtlib/SourcePosition", "equals", "(Ljava/lang/Object;)Z"⟩ : MethodName) (head1 (Jvm.Cond.code (⟨"com/example/heapwright/heapwright/logic/smtlib/SourcePosition", "equals", "(Ljava/lang/Object;)Z"⟩ : MethodName) prog_184_method_4_code 3 (some .boolean) :: ws) ({ frames := 0, cells := 0, slots := 0, locals := 0 } : Room)) (fun a U => a = #[(.ref a1), .null] ∧ Z.Warmed39 U.vm ∧ U.heap = h0) (fun _ _ _ _ _ => True) (fun _ U o U' => ∃ v L, o = .returned v ∧ Q_eqN Z a1 h0 n0 v U'.heap L ∧ FrameEnd U o U' L ({ frames := 0, cells := 0, slots := 0, locals := 0 } : Room).cells ({ frames := 0, cells := 0, slots := 0, locals := 0 } : Room).slots) := by
  refine MetFree.of_bodySF (plainFor_of_name own_pn_com_example_heapwright_heapwright_logic_smtlib_SourcePosition) hisR ?_
  intro p e s m args below meth c s₁ Bd hml0 hP hK
  obtain ⟨rfl, hZ, hh⟩ := hP
  have hx := Bd.exec
  have hby := Bd.bytes
  have hml : c.maxLocals = 3 := hml0
  have hown : s.vm.findClass "com/example/heapwright/heapwright/logic/smtlib/SourcePosition" = some m.cls := findClass_of_methodNamed Bd.named
  have hnm := (name_of_methodNamed Bd.named Bd.method).1
  have X0 : Stand p l e ({ frames := 0, cells := 0, slots := 0, locals := 0 } : Room) s m #[(.ref a1), .null] below meth c s₁ [] 0 0 := Stand.of_body Bd
  have e0 : s₁.heap = h0 := by rw [← hh, Bd.state]; rfl
  have N0 := Fr.nil n0
  refine own_start (F0 := fun o U' => ∃ v L, o = .returned v ∧ Q_eqN Z a1 h0 n0 v U'.heap L ∧ FrameEnd s o U' L ({ frames := 0, cells := 0, slots := 0, locals := 0 } : Room).cells ({ frames := 0, cells := 0, slots := 0, locals := 0 } : Room).slots) fun F hF => ?_
  rw [own_ef_eqN m a1]
  refine own_st (V := s₁.setTop (mkF m 1 #[.val (.ref a1), .val .null, .unset] [.null])) (fun _ hk => XS.aloadN X0.here hx rfl (hb hby d6_0) rfl rfl hk) ?_
  refine own_st (V := s₁.setTop (mkF m 4 #[.val (.ref a1), .val .null, .unset] [(.int (0 : Int32))])) (X0.instanceofNull hx (g := (mkF m 1 #[.val (.ref a1), .val .null, .unset] [.null])) rfl rfl (hb hby d6_1)) ?_
  refine own_st (V := s₁.setTop (mkF m 7 #[.val (.ref a1), .val .null, .unset] [])) (fun _ hk => XS.ifNo X0.here hx rfl (hb hby d6_4) rfl ((if0 _ _).trans (teq (show (0 : Int32) = (0 : Int32) from rfl)).2) hk) ?_
  refine own_st (V := s₁.setTop (mkF m 8 #[.val (.ref a1), .val .null, .unset] [(.int (0 : Int32))])) (fun _ hk => XS.iconst X0.here hx rfl (hb hby d6_7) hk) ?_
  exact own_retN X0 hx Bd.notSynchronized Bd.returns rfl (by simp) (hb hby d6_8) (by decide) (by decide) (fun U hU hE => hF _ _ ⟨_, _, rfl, (by rw [hU, e0]; exact ⟨rfl, N0, rfl⟩), hE⟩)
theorem own_ef_eqX (m : MethodId) (x0 : Addr) (x1 : Addr) : entryFrame m #[(.ref x0), (.ref x1)] 3 = mkF m 0 #[.val (.ref x0), .val (.ref x1), .unset] [] := by first | (simp [entryFrame, mkF, argsToLocals, Value.category]; done) | rfl
def Q_eqX (Z : State) (a1 a2 : Addr) (h0 : Heap) (n0 : Nat) (v : Option Value) (h : Heap) (L : List Loc) : Prop := v = some (.int 0) ∧ Fr n0 L ∧ h = h0
set_option maxRecDepth 65536 in
set_option maxHeartbeats 40000000 in
theorem rm_eqX (l : Launch) (Z : State) (a0 : Array Value) (hw : ∀ d ∈ tables_1, d.before a0 Z = true) (ws : List Jvm.Cond) (a1 a2 : Addr) (h0 : Heap) (n0 : Nat) (Z0 : n0 ≤ h0.size) (E_a2 : Exa Z h0 a2 "java/lang/Long") :
    MetFree l (⟨"com/example/heapwright/heapwright/logic/smtlib/SourcePosition", "equals", "(Ljava/lang/Object;)Z"⟩ : MethodName) (head1 (Jvm.Cond.code (⟨"com/example/heapwright/heapwright/logic/smtlib/SourcePosition", "equals", "(Ljava/lang/Object;)Z"⟩ : MethodName) prog_184_method_4_code 3 (some .boolean) :: ws) ({ frames := 0, cells := 0, slots := 0, locals := 0 } : Room)) (fun a U => a = #[(.ref a1), (.ref a2)] ∧ Z.Warmed39 U.vm ∧ U.heap = h0) (fun _ _ _ _ _ => True) (fun _ U o U' => ∃ v L, o = .returned v ∧ Q_eqX Z a1 a2 h0 n0 v U'.heap L ∧ FrameEnd U o U' L ({ frames := 0, cells := 0, slots := 0, locals := 0 } : Room).cells ({ frames := 0, cells := 0, slots := 0, locals := 0 } : Room).slots) := by
  refine MetFree.of_bodySF (plainFor_of_name own_pn_com_example_heapwright_heapwright_logic_smtlib_SourcePosition) hisR ?_
  intro p e s m args below meth c s₁ Bd hml0 hP hK
  obtain ⟨rfl, hZ, hh⟩ := hP
  have hx := Bd.exec
  have hby := Bd.bytes
  have hml : c.maxLocals = 3 := hml0
  have hown : s.vm.findClass "com/example/heapwright/heapwright/logic/smtlib/SourcePosition" = some m.cls := findClass_of_methodNamed Bd.named
  have hnm := (name_of_methodNamed Bd.named Bd.method).1
  have X0 : Stand p l e ({ frames := 0, cells := 0, slots := 0, locals := 0 } : Room) s m #[(.ref a1), (.ref a2)] below meth c s₁ [] 0 0 := Stand.of_body Bd
  have e0 : s₁.heap = h0 := by rw [← hh, Bd.state]; rfl
  have N0 := Fr.nil n0
  refine own_start (F0 := fun o U' => ∃ v L, o = .returned v ∧ Q_eqX Z a1 a2 h0 n0 v U'.heap L ∧ FrameEnd s o U' L ({ frames := 0, cells := 0, slots := 0, locals := 0 } : Room).cells ({ frames := 0, cells := 0, slots := 0, locals := 0 } : Room).slots) fun F hF => ?_
  rw [own_ef_eqX m a1 a2]
  refine own_st (V := s₁.setTop (mkF m 1 #[.val (.ref a1), .val (.ref a2), .unset] [(.ref a2)])) (fun _ hk => XS.aloadN X0.here hx rfl (hb hby d6_0) rfl rfl hk) ?_
  obtain ⟨T1, X1, e1, st1⟩ := instNo X0 hx hZ hown (hw _ (List.mem_of_getElem? (i := 35) rfl)) e0 E_a2 (own_nsNo (hw _ (List.mem_of_getElem? (i := 37) rfl)) (hw _ (List.mem_of_getElem? (i := 10) rfl)) (NS.step (hw _ (List.mem_of_getElem? (i := 37) rfl)) (NS.step (hw _ (List.mem_of_getElem? (i := 38) rfl)) (own_nsRoot (hw _ (List.mem_of_getElem? (i := 39) rfl)) (hw _ (List.mem_of_getElem? (i := 10) rfl)) (by decide)) (by decide)) (by decide)) (by decide)) (g := (mkF m 1 #[.val (.ref a1), .val (.ref a2), .unset] [(.ref a2)])) rfl rfl (hb hby d6_1)
  refine own_st (V := T1.setTop (mkF m 4 #[.val (.ref a1), .val (.ref a2), .unset] [(.int (0 : Int32))])) st1 ?_
  refine own_st (V := T1.setTop (mkF m 7 #[.val (.ref a1), .val (.ref a2), .unset] [])) (fun _ hk => XS.ifNo X1.here hx rfl (hb hby d6_4) rfl ((if0 _ _).trans (teq (show (0 : Int32) = (0 : Int32) from rfl)).2) hk) ?_
  refine own_st (V := T1.setTop (mkF m 8 #[.val (.ref a1), .val (.ref a2), .unset] [(.int (0 : Int32))])) (fun _ hk => XS.iconst X1.here hx rfl (hb hby d6_7) hk) ?_
  exact own_retN X1 hx Bd.notSynchronized Bd.returns rfl (by simp) (hb hby d6_8) (by decide) (by decide) (fun U hU hE => hF _ _ ⟨_, _, rfl, (by rw [hU, e1]; exact ⟨rfl, N0, rfl⟩), hE⟩)
theorem own_pd3 : parseMethodDescriptor "(JJ)V" = some ⟨[.long, .long], none⟩ := by decide +kernel
theorem own_pd4 : parseMethodDescriptor "(J)Ljava/lang/Long;" = some ⟨[.long], some (.object "java/lang/Long")⟩ := by decide +kernel
theorem own_pd5 : parseMethodDescriptor "(Ljava/lang/Object;)Z" = some ⟨[(.object "java/lang/Object")], some .boolean⟩ := by decide +kernel
theorem own_pd6 : parseMethodDescriptor "(J)J" = some ⟨[.long], some .long⟩ := by decide +kernel
theorem own_ef_law (m : MethodId) (x0 : Int64) (x1 : Int64) (x2 : Int64) (x3 : Int64) (x4 : Int32) : entryFrame m #[(.long x0), (.long x1), (.long x2), (.long x3), (.int x4)] maxLocals = mkF m 0 #[.val (.long x0), .second, .val (.long x1), .second, .val (.long x2), .second, .val (.long x3), .second, .val (.int x4), .unset, .unset, .unset, .unset, .unset, .unset, .unset, .unset, .unset, .unset, .unset, .unset] [] := by first | (simp [entryFrame, mkF, argsToLocals, Value.category, maxLocals]; done) | rfl
def Q_law (Z : State) (l1 c1 l2 c2 : Int64) (md : Int32) (ca : Addr) (h0 : Heap) (n0 : Nat) (v : Option Value) (h : Heap) (L : List Loc) : Prop := v = some (.int 1) ∧ Fr n0 L
set_option maxRecDepth 65536 in
set_option maxHeartbeats 40000000 in
theorem rm_law (l : Launch) (Z : State) (a0 : Array Value) (hw : ∀ d ∈ tables_1, d.before a0 Z = true) (ws : List Jvm.Cond) (l1 c1 l2 c2 : Int64) (md : Int32) (ca : Addr) (h0 : Heap) (n0 : Nat) (Z0 : n0 ≤ h0.size) (O : Old Z n0 h0) (hca : own_cache Z ca) :
    MetFree l x (head1 (Jvm.Cond.code x code maxLocals ret :: ws) room_1) (fun a U => a = #[(.long l1), (.long c1), (.long l2), (.long c2), (.int md)] ∧ Z.Warmed39 U.vm ∧ U.heap = h0) (fun _ _ _ _ _ => True) (fun _ U o U' => ∃ v L, o = .returned v ∧ Q_law Z l1 c1 l2 c2 md ca h0 n0 v U'.heap L ∧ FrameEnd U o U' L 16 128) := by
  refine MetFree.of_bodySF (plainFor_of_name own_pn_com_example_heapwright_heapwright_logic_smtlib_SourcePositionEqualsPinLaw) hisR ?_
  intro p e s m args below meth c s₁ Bd hml0 hP hK
  obtain ⟨rfl, hZ, hh⟩ := hP
  have hx := Bd.exec
  have hby := Bd.bytes
  have hml : c.maxLocals = 21 := hml0
  have hown : s.vm.findClass "com/example/heapwright/heapwright/logic/smtlib/SourcePositionEqualsPinLaw" = some m.cls := findClass_of_methodNamed Bd.named
  have hnm := (name_of_methodNamed Bd.named Bd.method).1
  have X0 : Stand p l e room_1 s m #[(.long l1), (.long c1), (.long l2), (.long c2), (.int md)] below meth c s₁ [] 0 0 := Stand.of_body Bd
  have e0 : s₁.heap = h0 := by rw [← hh, Bd.state]; rfl
  have N0 := Fr.nil n0
  refine own_start (F0 := fun o U' => ∃ v L, o = .returned v ∧ Q_law Z l1 c1 l2 c2 md ca h0 n0 v U'.heap L ∧ FrameEnd s o U' L 16 128) fun F hF => ?_
  rw [own_ef_law m l1 c1 l2 c2 md]
  obtain ⟨x1, hx1⟩ : ∃ z, z = (own_max 1 (l1 &&& (9223372036854775807 : Int64))) := ⟨_, rfl⟩
  obtain ⟨y1, hy1⟩ : ∃ z, z = (own_max 1 (c1 &&& (9223372036854775807 : Int64))) := ⟨_, rfl⟩
  have px1 : ¬ x1 < 1 := by rw [hx1]; exact own_max_ge _ _
  have py1 : ¬ y1 < 1 := by rw [hy1]; exact own_max_ge _ _
  have J48 : ∀ (T_J48 : State) (locs_J48 : List Loc) (X_J48 : Stand p l e room_1 s m #[(.long l1), (.long c1), (.long l2), (.long c2), (.int md)] below meth c T_J48 locs_J48 0 0) (e_J48 : T_J48.heap = h0) (N_J48 : Fr n0 locs_J48) (x2 : Int64) (y2 : Int64) (px2 : ¬ x2 < 1) (py2 : ¬ y2 < 1), own_G p e below F (T_J48.setTop (mkF m 48 #[.val (.long l1), .second, .val (.long c1), .second, .val (.long l2), .second, .val (.long c2), .second, .val (.int md), .val (.long x1), .second, .val (.long y1), .second, .val (.long x2), .second, .unset, .unset, .unset, .unset, .unset, .unset] [(.long y2)])) := by
    intro T_J48 locs_J48 X_J48 e_J48 N_J48 x2 y2 px2 py2
    refine own_st (V := T_J48.setTop (mkF m 50 #[.val (.long l1), .second, .val (.long c1), .second, .val (.long l2), .second, .val (.long c2), .second, .val (.int md), .val (.long x1), .second, .val (.long y1), .second, .val (.long x2), .second, .val (.long y2), .second, .unset, .unset, .unset, .unset] [])) (fun _ hk => XS.lstore X_J48.here hx rfl (hb hby at_48) rfl  (l' := #[.val (.long l1), .second, .val (.long c1), .second, .val (.long l2), .second, .val (.long c2), .second, .val (.int md), .val (.long x1), .second, .val (.long y1), .second, .val (.long x2), .second, .val (.long y2), .second, .unset, .unset, .unset, .unset]) rfl hk) ?_
    obtain ⟨T1, h1, X1, e1, E1, A1, D1, -, st1⟩ := newO X_J48 hx hZ hown (hw _ (List.mem_of_getElem? (i := 9) rfl)) (hw _ (List.mem_of_getElem? (i := 10) rfl)) (hw _ (List.mem_of_getElem? (i := 11) rfl)) e_J48 (g := (mkF m 50 #[.val (.long l1), .second, .val (.long c1), .second, .val (.long l2), .second, .val (.long c2), .second, .val (.int md), .val (.long x1), .second, .val (.long y1), .second, .val (.long x2), .second, .val (.long y2), .second, .unset, .unset, .unset, .unset] [])) rfl (hb hby at_50) (by decide) (by decide)
    obtain ⟨b1, g1⟩ : ∃ z, z = h0.size := ⟨_, rfl⟩
    rw [← g1] at A1 D1 st1
    have g_b1 : n0 ≤ b1 := Nat.le_trans Z0 (Nat.le_of_eq g1.symm)
    have O := O.ext E1
    have Z0 : n0 ≤ h1.size := Nat.le_trans Z0 E1.1
    have E_b1 := A1
    have F_line_b1 : Fld Z h1 b1 "com/example/heapwright/heapwright/logic/smtlib/SourcePosition" "line" "J" (.long (0 : Int64)) := D1 (Or.inr (hw _ (List.mem_of_getElem? (i := 19) rfl))) (ty := .long) (by decide)
    have F_column_b1 : Fld Z h1 b1 "com/example/heapwright/heapwright/logic/smtlib/SourcePosition" "column" "J" (.long (0 : Int64)) := D1 (Or.inr (hw _ (List.mem_of_getElem? (i := 21) rfl))) (ty := .long) (by decide)
    refine own_st (V := T1.setTop (mkF m 53 #[.val (.long l1), .second, .val (.long c1), .second, .val (.long l2), .second, .val (.long c2), .second, .val (.int md), .val (.long x1), .second, .val (.long y1), .second, .val (.long x2), .second, .val (.long y2), .second, .unset, .unset, .unset, .unset] [(.ref b1)])) st1 ?_
    refine own_st (V := T1.setTop (mkF m 54 #[.val (.long l1), .second, .val (.long c1), .second, .val (.long l2), .second, .val (.long c2), .second, .val (.int md), .val (.long x1), .second, .val (.long y1), .second, .val (.long x2), .second, .val (.long y2), .second, .unset, .unset, .unset, .unset] [(.ref b1), (.ref b1)])) (fun _ hk => XS.dup X1.here hx rfl (hb hby at_53) rfl rfl hk) ?_
    refine own_st (V := T1.setTop (mkF m 56 #[.val (.long l1), .second, .val (.long c1), .second, .val (.long l2), .second, .val (.long c2), .second, .val (.int md), .val (.long x1), .second, .val (.long y1), .second, .val (.long x2), .second, .val (.long y2), .second, .unset, .unset, .unset, .unset] [(.long x1), (.ref b1), (.ref b1)])) (fun _ hk => XS.lload X1.here hx rfl (hb hby at_54) rfl  hk) ?_
    refine own_st (V := T1.setTop (mkF m 58 #[.val (.long l1), .second, .val (.long c1), .second, .val (.long l2), .second, .val (.long c2), .second, .val (.int md), .val (.long x1), .second, .val (.long y1), .second, .val (.long x2), .second, .val (.long y2), .second, .unset, .unset, .unset, .unset] [(.long y1), (.long x1), (.ref b1), (.ref b1)])) (fun _ hk => XS.lload X1.here hx rfl (hb hby at_56) rfl  hk) ?_
    obtain ⟨_, _, ⟨T2, L2, k2, n2⟩, -, X2, ⟨Lc2, hQ2, l2, y2, z2⟩, st2⟩ := X1.specialBack hx (y := (⟨"com/example/heapwright/heapwright/logic/smtlib/SourcePosition", "<init>", "(JJ)V"⟩ : MethodName)) rfl hown (mvT hZ (hw _ (List.mem_of_getElem? (i := 12) rfl))) (mvT hZ (hw _ (List.mem_of_getElem? (i := 13) rfl))) (mvT hZ (hw _ (List.mem_of_getElem? (i := 14) rfl))) (by decide) (backOf (W := 1) (rm_init l Z a0 hw [] b1 x1 y1 _ _ h1 n0 Z0 E_b1 F_line_b1 F_column_b1 g_b1 px1 py1) hZ (hw _ (List.mem_of_getElem? (i := 14) rfl)) (hw _ (List.mem_of_getElem? (i := 11) rfl)) (by decide) (by decide)) (g := (mkF m 58 #[.val (.long l1), .second, .val (.long c1), .second, .val (.long l2), .second, .val (.long c2), .second, .val (.int md), .val (.long x1), .second, .val (.long y1), .second, .val (.long x2), .second, .val (.long y2), .second, .unset, .unset, .unset, .unset] [(.long y1), (.long x1), (.ref b1), (.ref b1)])) rfl (by rw [hml]; rfl) (Steps.refl _) (a := b1) (argsL := [(.long x1), (.long y1)]) (rest := [(.ref b1)]) (lenOf own_pd3 rfl) rfl (by show 2 * 0 + _ ≤ _; exact Nat.le_of_eq rfl) (hb hby at_58) (fun _ _ => ⟨rfl, e1, (by decide : 1 + 0 ≤ _), (by decide : 2 + 0 ≤ _)⟩)
    dsimp only [Pt.U, Pt.locs, Pt.cells, Pt.slots] at X2 l2 y2 z2 st2 hQ2
    subst l2 y2 z2
    obtain ⟨rfl, N2q, Ka, Ea2, Fa1, Fa2⟩ := hQ2
    have N2 := Fr.app N_J48 N2q
    refine own_tr (V := T2.setTop (mkF m 61 #[.val (.long l1), .second, .val (.long c1), .second, .val (.long l2), .second, .val (.long c2), .second, .val (.int md), .val (.long x1), .second, .val (.long y1), .second, .val (.long x2), .second, .val (.long y2), .second, .unset, .unset, .unset, .unset] [(.ref b1)])) st2 ?_
    have E_b1 := E_b1.keep Ka
    have Z0 : n0 ≤ T2.heap.size := Nat.le_trans Z0 Ka.1
    have O := O.keep Ka (allS g_b1 all0)
    have F_line_a := Fa1
    have F_col_a := Fa2
    refine own_st (V := T2.setTop (mkF m 63 #[.val (.long l1), .second, .val (.long c1), .second, .val (.long l2), .second, .val (.long c2), .second, .val (.int md), .val (.long x1), .second, .val (.long y1), .second, .val (.long x2), .second, .val (.long y2), .second, .val (.ref b1), .unset, .unset, .unset] [])) (fun _ hk => XS.astore X2.here hx rfl (hb hby at_61) rfl rfl (l' := #[.val (.long l1), .second, .val (.long c1), .second, .val (.long l2), .second, .val (.long c2), .second, .val (.int md), .val (.long x1), .second, .val (.long y1), .second, .val (.long x2), .second, .val (.long y2), .second, .val (.ref b1), .unset, .unset, .unset]) rfl hk) ?_
    obtain ⟨T3, h3, X3, e3, E3, A3, D3, -, st3⟩ := newO X2 hx hZ hown (hw _ (List.mem_of_getElem? (i := 9) rfl)) (hw _ (List.mem_of_getElem? (i := 10) rfl)) (hw _ (List.mem_of_getElem? (i := 11) rfl)) rfl (g := (mkF m 63 #[.val (.long l1), .second, .val (.long c1), .second, .val (.long l2), .second, .val (.long c2), .second, .val (.int md), .val (.long x1), .second, .val (.long y1), .second, .val (.long x2), .second, .val (.long y2), .second, .val (.ref b1), .unset, .unset, .unset] [])) rfl (hb hby at_63) (by decide) (by decide)
    obtain ⟨b3, g3⟩ : ∃ z, z = T2.heap.size := ⟨_, rfl⟩
    rw [← g3] at A3 D3 st3
    have ne_b1_b3 : b1 ≠ b3 := Nat.ne_of_lt (Nat.lt_of_lt_of_le E_b1.lt (Nat.le_of_eq g3.symm))
    have ne_b3_b1 : b3 ≠ b1 := Ne.symm ne_b1_b3
    have g_b3 : n0 ≤ b3 := Nat.le_trans Z0 (Nat.le_of_eq g3.symm)
    have E_b1 := E_b1.ext E3
    have F_line_a := F_line_a.ext E3
    have F_col_a := F_col_a.ext E3
    have O := O.ext E3
    have Z0 : n0 ≤ h3.size := Nat.le_trans Z0 E3.1
    have E_b3 := A3
    have F_line_b3 : Fld Z h3 b3 "com/example/heapwright/heapwright/logic/smtlib/SourcePosition" "line" "J" (.long (0 : Int64)) := D3 (Or.inr (hw _ (List.mem_of_getElem? (i := 19) rfl))) (ty := .long) (by decide)
    have F_column_b3 : Fld Z h3 b3 "com/example/heapwright/heapwright/logic/smtlib/SourcePosition" "column" "J" (.long (0 : Int64)) := D3 (Or.inr (hw _ (List.mem_of_getElem? (i := 21) rfl))) (ty := .long) (by decide)
    refine own_st (V := T3.setTop (mkF m 66 #[.val (.long l1), .second, .val (.long c1), .second, .val (.long l2), .second, .val (.long c2), .second, .val (.int md), .val (.long x1), .second, .val (.long y1), .second, .val (.long x2), .second, .val (.long y2), .second, .val (.ref b1), .unset, .unset, .unset] [(.ref b3)])) st3 ?_
    refine own_st (V := T3.setTop (mkF m 67 #[.val (.long l1), .second, .val (.long c1), .second, .val (.long l2), .second, .val (.long c2), .second, .val (.int md), .val (.long x1), .second, .val (.long y1), .second, .val (.long x2), .second, .val (.long y2), .second, .val (.ref b1), .unset, .unset, .unset] [(.ref b3), (.ref b3)])) (fun _ hk => XS.dup X3.here hx rfl (hb hby at_66) rfl rfl hk) ?_
    refine own_st (V := T3.setTop (mkF m 69 #[.val (.long l1), .second, .val (.long c1), .second, .val (.long l2), .second, .val (.long c2), .second, .val (.int md), .val (.long x1), .second, .val (.long y1), .second, .val (.long x2), .second, .val (.long y2), .second, .val (.ref b1), .unset, .unset, .unset] [(.long x2), (.ref b3), (.ref b3)])) (fun _ hk => XS.lload X3.here hx rfl (hb hby at_67) rfl  hk) ?_
    refine own_st (V := T3.setTop (mkF m 71 #[.val (.long l1), .second, .val (.long c1), .second, .val (.long l2), .second, .val (.long c2), .second, .val (.int md), .val (.long x1), .second, .val (.long y1), .second, .val (.long x2), .second, .val (.long y2), .second, .val (.ref b1), .unset, .unset, .unset] [(.long y2), (.long x2), (.ref b3), (.ref b3)])) (fun _ hk => XS.lload X3.here hx rfl (hb hby at_69) rfl  hk) ?_
    obtain ⟨_, _, ⟨T4, L4, k4, n4⟩, -, X4, ⟨Lc4, hQ4, l4, y4, z4⟩, st4⟩ := X3.specialBack hx (y := (⟨"com/example/heapwright/heapwright/logic/smtlib/SourcePosition", "<init>", "(JJ)V"⟩ : MethodName)) rfl hown (mvT hZ (hw _ (List.mem_of_getElem? (i := 12) rfl))) (mvT hZ (hw _ (List.mem_of_getElem? (i := 13) rfl))) (mvT hZ (hw _ (List.mem_of_getElem? (i := 14) rfl))) (by decide) (backOf (W := 1) (rm_init l Z a0 hw [] b3 x2 y2 _ _ h3 n0 Z0 E_b3 F_line_b3 F_column_b3 g_b3 px2 py2) hZ (hw _ (List.mem_of_getElem? (i := 14) rfl)) (hw _ (List.mem_of_getElem? (i := 11) rfl)) (by decide) (by decide)) (g := (mkF m 71 #[.val (.long l1), .second, .val (.long c1), .second, .val (.long l2), .second, .val (.long c2), .second, .val (.int md), .val (.long x1), .second, .val (.long y1), .second, .val (.long x2), .second, .val (.long y2), .second, .val (.ref b1), .unset, .unset, .unset] [(.long y2), (.long x2), (.ref b3), (.ref b3)])) rfl (by rw [hml]; rfl) (Steps.refl _) (a := b3) (argsL := [(.long x2), (.long y2)]) (rest := [(.ref b3)]) (lenOf own_pd3 rfl) rfl (by show 2 * 0 + _ ≤ _; exact Nat.le_of_eq rfl) (hb hby at_71) (fun _ _ => ⟨rfl, e3, (by decide : 2 + 0 ≤ _), (by decide : 4 + 0 ≤ _)⟩)
    dsimp only [Pt.U, Pt.locs, Pt.cells, Pt.slots] at X4 l4 y4 z4 st4 hQ4
    subst l4 y4 z4
    obtain ⟨rfl, N4q, Kb, Eb2, Fb1, Fb2⟩ := hQ4
    have N4 := Fr.app N2 N4q
    refine own_tr (V := T4.setTop (mkF m 74 #[.val (.long l1), .second, .val (.long c1), .second, .val (.long l2), .second, .val (.long c2), .second, .val (.int md), .val (.long x1), .second, .val (.long y1), .second, .val (.long x2), .second, .val (.long y2), .second, .val (.ref b1), .unset, .unset, .unset] [(.ref b3)])) st4 ?_
    have E_b1 := E_b1.keep Kb
    have F_line_a := F_line_a.keep Kb (ninS ne_b1_b3 nin0)
    have F_col_a := F_col_a.keep Kb (ninS ne_b1_b3 nin0)
    have E_b3 := E_b3.keep Kb
    have Z0 : n0 ≤ T4.heap.size := Nat.le_trans Z0 Kb.1
    have O := O.keep Kb (allS g_b3 all0)
    have F_line_b := Fb1
    have F_col_b := Fb2
    refine own_st (V := T4.setTop (mkF m 76 #[.val (.long l1), .second, .val (.long c1), .second, .val (.long l2), .second, .val (.long c2), .second, .val (.int md), .val (.long x1), .second, .val (.long y1), .second, .val (.long x2), .second, .val (.long y2), .second, .val (.ref b1), .val (.ref b3), .unset, .unset] [])) (fun _ hk => XS.astore X4.here hx rfl (hb hby at_74) rfl rfl (l' := #[.val (.long l1), .second, .val (.long c1), .second, .val (.long l2), .second, .val (.long c2), .second, .val (.int md), .val (.long x1), .second, .val (.long y1), .second, .val (.long x2), .second, .val (.long y2), .second, .val (.ref b1), .val (.ref b3), .unset, .unset]) rfl hk) ?_
    refine own_st (V := T4.setTop (mkF m 78 #[.val (.long l1), .second, .val (.long c1), .second, .val (.long l2), .second, .val (.long c2), .second, .val (.int md), .val (.long x1), .second, .val (.long y1), .second, .val (.long x2), .second, .val (.long y2), .second, .val (.ref b1), .val (.ref b3), .unset, .unset] [(.long x1)])) (fun _ hk => XS.lload X4.here hx rfl (hb hby at_76) rfl  hk) ?_
    refine own_st (V := T4.setTop (mkF m 80 #[.val (.long l1), .second, .val (.long c1), .second, .val (.long l2), .second, .val (.long c2), .second, .val (.int md), .val (.long x1), .second, .val (.long y1), .second, .val (.long x2), .second, .val (.long y2), .second, .val (.ref b1), .val (.ref b3), .unset, .unset] [(.long x2), (.long x1)])) (fun _ hk => XS.lload X4.here hx rfl (hb hby at_78) rfl  hk) ?_
    refine own_st (V := T4.setTop (mkF m 81 #[.val (.long l1), .second, .val (.long c1), .second, .val (.long l2), .second, .val (.long c2), .second, .val (.int md), .val (.long x1), .second, .val (.long y1), .second, .val (.long x2), .second, .val (.long y2), .second, .val (.ref b1), .val (.ref b3), .unset, .unset] [(.int (lcmpW x1 x2))])) (fun _ hk => XS.lcmp X4.here hx rfl (hb hby at_80) rfl hk) ?_
    have J97 : ∀ bb : Int32, bb = own_b x1 y1 x2 y2 → own_G p e below F (T4.setTop (mkF m 97 #[.val (.long l1), .second, .val (.long c1), .second, .val (.long l2), .second, .val (.long c2), .second, .val (.int md), .val (.long x1), .second, .val (.long y1), .second, .val (.long x2), .second, .val (.long y2), .second, .val (.ref b1), .val (.ref b3), .unset, .unset] [(.int bb)])) := by
      intro bb hbb
      refine own_st (V := T4.setTop (mkF m 99 #[.val (.long l1), .second, .val (.long c1), .second, .val (.long l2), .second, .val (.long c2), .second, .val (.int md), .val (.long x1), .second, .val (.long y1), .second, .val (.long x2), .second, .val (.long y2), .second, .val (.ref b1), .val (.ref b3), .val (.int bb), .unset] [])) (fun _ hk => XS.istore X4.here hx rfl (hb hby at_97) rfl  (l' := #[.val (.long l1), .second, .val (.long c1), .second, .val (.long l2), .second, .val (.long c2), .second, .val (.int md), .val (.long x1), .second, .val (.long y1), .second, .val (.long x2), .second, .val (.long y2), .second, .val (.ref b1), .val (.ref b3), .val (.int bb), .unset]) rfl hk) ?_
      refine own_st (V := T4.setTop (mkF m 101 #[.val (.long l1), .second, .val (.long c1), .second, .val (.long l2), .second, .val (.long c2), .second, .val (.int md), .val (.long x1), .second, .val (.long y1), .second, .val (.long x2), .second, .val (.long y2), .second, .val (.ref b1), .val (.ref b3), .val (.int bb), .unset] [(.long x1)])) (fun _ hk => XS.lload X4.here hx rfl (hb hby at_99) rfl  hk) ?_
      obtain ⟨_, _, ⟨T5, L5, k5, n5⟩, -, X5, ⟨Lc5, hQ5, l5, y5, z5⟩, st5⟩ := Jvm.LawKit.callS X4 hx (y := (⟨"java/lang/Long", "valueOf", "(J)Ljava/lang/Long;"⟩ : MethodName)) hown (mvT hZ (hw _ (List.mem_of_getElem? (i := 22) rfl))) (mvT hZ (hw _ (List.mem_of_getElem? (i := 23) rfl))) (mvT hZ (hw _ (List.mem_of_getElem? (i := 24) rfl))) (mvT hZ (hw _ (List.mem_of_getElem? (i := 25) rfl))) (by decide) (backOf (W := 0) (rm_valueOf l Z a0 hw [] x1 ca T4.heap n0 Z0 O px1 hca) hZ (hw _ (List.mem_of_getElem? (i := 25) rfl)) (hw _ (List.mem_of_getElem? (i := 24) rfl)) (by decide) (by decide)) (g := (mkF m 101 #[.val (.long l1), .second, .val (.long c1), .second, .val (.long l2), .second, .val (.long c2), .second, .val (.int md), .val (.long x1), .second, .val (.long y1), .second, .val (.long x2), .second, .val (.long y2), .second, .val (.ref b1), .val (.ref b3), .val (.int bb), .unset] [(.long x1)])) rfl (by rw [hml]; rfl) (argsL := [(.long x1)]) (rest := []) (lenOf own_pd4 rfl) rfl (by show 2 * 0 + _ ≤ _; exact Nat.le_of_eq rfl) (hb hby at_101) (fun _ _ => ⟨rfl, rfl, (by decide : 2 + 1 ≤ _), (by decide : 4 + 1 ≤ _)⟩)
      dsimp only [Pt.U, Pt.locs, Pt.cells, Pt.slots] at X5 l5 y5 z5 st5 hQ5
      subst l5 y5 z5
      obtain ⟨r, rfl, N5q, Kv, E_r⟩ := hQ5
      have N5 := Fr.app N4 N5q
      refine own_st (V := T5.setTop (mkF m 104 #[.val (.long l1), .second, .val (.long c1), .second, .val (.long l2), .second, .val (.long c2), .second, .val (.int md), .val (.long x1), .second, .val (.long y1), .second, .val (.long x2), .second, .val (.long y2), .second, .val (.ref b1), .val (.ref b3), .val (.int bb), .unset] [(.ref r)])) st5 ?_
      have E_b1 := E_b1.keep Kv
      have F_line_a := F_line_a.keep Kv nin0
      have F_col_a := F_col_a.keep Kv nin0
      have E_b3 := E_b3.keep Kv
      have F_line_b := F_line_b.keep Kv nin0
      have F_col_b := F_col_b.keep Kv nin0
      have Z0 : n0 ≤ T5.heap.size := Nat.le_trans Z0 Kv.1
      have O := O.keep Kv all0
      refine own_st (V := T5.setTop (mkF m 106 #[.val (.long l1), .second, .val (.long c1), .second, .val (.long l2), .second, .val (.long c2), .second, .val (.int md), .val (.long x1), .second, .val (.long y1), .second, .val (.long x2), .second, .val (.long y2), .second, .val (.ref b1), .val (.ref b3), .val (.int bb), .val (.ref r)] [])) (fun _ hk => XS.astore X5.here hx rfl (hb hby at_104) rfl rfl (l' := #[.val (.long l1), .second, .val (.long c1), .second, .val (.long l2), .second, .val (.long c2), .second, .val (.int md), .val (.long x1), .second, .val (.long y1), .second, .val (.long x2), .second, .val (.long y2), .second, .val (.ref b1), .val (.ref b3), .val (.int bb), .val (.ref r)]) rfl hk) ?_
      refine own_st (V := T5.setTop (mkF m 108 #[.val (.long l1), .second, .val (.long c1), .second, .val (.long l2), .second, .val (.long c2), .second, .val (.int md), .val (.long x1), .second, .val (.long y1), .second, .val (.long x2), .second, .val (.long y2), .second, .val (.ref b1), .val (.ref b3), .val (.int bb), .val (.ref r)] [(.ref b1)])) (fun _ hk => XS.aload X5.here hx rfl (hb hby at_106) rfl rfl hk) ?_
      refine own_st (V := T5.setTop (mkF m 110 #[.val (.long l1), .second, .val (.long c1), .second, .val (.long l2), .second, .val (.long c2), .second, .val (.int md), .val (.long x1), .second, .val (.long y1), .second, .val (.long x2), .second, .val (.long y2), .second, .val (.ref b1), .val (.ref b3), .val (.int bb), .val (.ref r)] [(.ref b3), (.ref b1)])) (fun _ hk => XS.aload X5.here hx rfl (hb hby at_108) rfl rfl hk) ?_
      obtain ⟨cq6, kq6, q6a, q6b, q6c⟩ := isOf hZ rfl E_b1
      obtain ⟨_, _, ⟨T6, L6, k6, n6⟩, -, X6, ⟨Lc6, hQ6, l6, y6, z6⟩, st6⟩ := X5.virtualBack hx (y := (⟨"com/example/heapwright/heapwright/logic/smtlib/SourcePosition", "equals", "(Ljava/lang/Object;)Z"⟩ : MethodName)) (z := (⟨"com/example/heapwright/heapwright/logic/smtlib/SourcePosition", "equals", "(Ljava/lang/Object;)Z"⟩ : MethodName)) hown (mvT hZ (hw _ (List.mem_of_getElem? (i := 30) rfl))) (mvT hZ (hw _ (List.mem_of_getElem? (i := 31) rfl))) (notFace_of_selects (args := #[]) (mvT hZ (hw _ (List.mem_of_getElem? (i := 33) rfl)))) (mvT hZ (hw _ (List.mem_of_getElem? (i := 33) rfl))) (mvT hZ (hw _ (List.mem_of_getElem? (i := 32) rfl))) (by decide) (backOf (W := 0) (rm_eqO l Z a0 hw [] b1 b3 x1 y1 x2 y2 T5.heap n0 Z0 E_b3 F_line_a F_col_a F_line_b F_col_b) hZ (hw _ (List.mem_of_getElem? (i := 34) rfl)) (hw _ (List.mem_of_getElem? (i := 11) rfl)) (by decide) (by decide)) q6a q6c (g := (mkF m 110 #[.val (.long l1), .second, .val (.long c1), .second, .val (.long l2), .second, .val (.long c2), .second, .val (.int md), .val (.long x1), .second, .val (.long y1), .second, .val (.long x2), .second, .val (.long y2), .second, .val (.ref b1), .val (.ref b3), .val (.int bb), .val (.ref r)] [(.ref b3), (.ref b1)])) rfl (by rw [hml]; rfl) (Steps.refl _) (argsL := [(.ref b3)]) (rest := []) (lenOf own_pd5 rfl) rfl (by show 2 * 0 + _ ≤ _; exact Nat.le_of_eq rfl) (hb hby at_110) (fun _ _ => ⟨rfl, rfl, (by decide : 3 + 0 ≤ _), (by decide : 5 + 0 ≤ _)⟩)
      dsimp only [Pt.U, Pt.locs, Pt.cells, Pt.slots] at X6 l6 y6 z6 st6 hQ6
      subst l6 y6 z6
      obtain ⟨rfl, N6q, es6⟩ := hQ6
      have N6 := Fr.app N5 N6q
      refine own_tr (V := T6.setTop (mkF m 113 #[.val (.long l1), .second, .val (.long c1), .second, .val (.long l2), .second, .val (.long c2), .second, .val (.int md), .val (.long x1), .second, .val (.long y1), .second, .val (.long x2), .second, .val (.long y2), .second, .val (.ref b1), .val (.ref b3), .val (.int bb), .val (.ref r)] [(.int (own_b x1 y1 x2 y2))])) st6 ?_
      refine own_st (V := T6.setTop (mkF m 115 #[.val (.long l1), .second, .val (.long c1), .second, .val (.long l2), .second, .val (.long c2), .second, .val (.int md), .val (.long x1), .second, .val (.long y1), .second, .val (.long x2), .second, .val (.long y2), .second, .val (.ref b1), .val (.ref b3), .val (.int bb), .val (.ref r)] [(.int bb), (.int (own_b x1 y1 x2 y2))])) (fun _ hk => XS.iload X6.here hx rfl (hb hby at_113) rfl  hk) ?_
      refine own_st (V := T6.setTop (mkF m 118 #[.val (.long l1), .second, .val (.long c1), .second, .val (.long l2), .second, .val (.long c2), .second, .val (.int md), .val (.long x1), .second, .val (.long y1), .second, .val (.long x2), .second, .val (.long y2), .second, .val (.ref b1), .val (.ref b3), .val (.int bb), .val (.ref r)] [])) (fun _ hk => XS.icmpNo X6.here hx rfl (hb hby at_115) rfl (teq (show (own_b x1 y1 x2 y2) = bb from hbb.symm)).2 hk) ?_
      refine own_st (V := T6.setTop (mkF m 120 #[.val (.long l1), .second, .val (.long c1), .second, .val (.long l2), .second, .val (.long c2), .second, .val (.int md), .val (.long x1), .second, .val (.long y1), .second, .val (.long x2), .second, .val (.long y2), .second, .val (.ref b1), .val (.ref b3), .val (.int bb), .val (.ref r)] [(.ref b3)])) (fun _ hk => XS.aload X6.here hx rfl (hb hby at_118) rfl rfl hk) ?_
      refine own_st (V := T6.setTop (mkF m 122 #[.val (.long l1), .second, .val (.long c1), .second, .val (.long l2), .second, .val (.long c2), .second, .val (.int md), .val (.long x1), .second, .val (.long y1), .second, .val (.long x2), .second, .val (.long y2), .second, .val (.ref b1), .val (.ref b3), .val (.int bb), .val (.ref r)] [(.ref b1), (.ref b3)])) (fun _ hk => XS.aload X6.here hx rfl (hb hby at_120) rfl rfl hk) ?_
      obtain ⟨cq7, kq7, q7a, q7b, q7c⟩ := isOf hZ es6 E_b3
      obtain ⟨_, _, ⟨T7, L7, k7, n7⟩, -, X7, ⟨Lc7, hQ7, l7, y7, z7⟩, st7⟩ := X6.virtualBack hx (y := (⟨"com/example/heapwright/heapwright/logic/smtlib/SourcePosition", "equals", "(Ljava/lang/Object;)Z"⟩ : MethodName)) (z := (⟨"com/example/heapwright/heapwright/logic/smtlib/SourcePosition", "equals", "(Ljava/lang/Object;)Z"⟩ : MethodName)) hown (mvT hZ (hw _ (List.mem_of_getElem? (i := 30) rfl))) (mvT hZ (hw _ (List.mem_of_getElem? (i := 31) rfl))) (notFace_of_selects (args := #[]) (mvT hZ (hw _ (List.mem_of_getElem? (i := 33) rfl)))) (mvT hZ (hw _ (List.mem_of_getElem? (i := 33) rfl))) (mvT hZ (hw _ (List.mem_of_getElem? (i := 32) rfl))) (by decide) (backOf (W := 0) (rm_eqO l Z a0 hw [] b3 b1 x2 y2 x1 y1 T5.heap n0 Z0 E_b1 F_line_b F_col_b F_line_a F_col_a) hZ (hw _ (List.mem_of_getElem? (i := 34) rfl)) (hw _ (List.mem_of_getElem? (i := 11) rfl)) (by decide) (by decide)) q7a q7c (g := (mkF m 122 #[.val (.long l1), .second, .val (.long c1), .second, .val (.long l2), .second, .val (.long c2), .second, .val (.int md), .val (.long x1), .second, .val (.long y1), .second, .val (.long x2), .second, .val (.long y2), .second, .val (.ref b1), .val (.ref b3), .val (.int bb), .val (.ref r)] [(.ref b1), (.ref b3)])) rfl (by rw [hml]; rfl) (Steps.refl _) (argsL := [(.ref b1)]) (rest := []) (lenOf own_pd5 rfl) rfl (by show 2 * 0 + _ ≤ _; exact Nat.le_of_eq rfl) (hb hby at_122) (fun _ _ => ⟨rfl, es6, (by decide : 3 + 0 ≤ _), (by decide : 5 + 0 ≤ _)⟩)
      dsimp only [Pt.U, Pt.locs, Pt.cells, Pt.slots] at X7 l7 y7 z7 st7 hQ7
      subst l7 y7 z7
      obtain ⟨rfl, N7q, es7⟩ := hQ7
      have N7 := Fr.app N6 N7q
      refine own_tr (V := T7.setTop (mkF m 125 #[.val (.long l1), .second, .val (.long c1), .second, .val (.long l2), .second, .val (.long c2), .second, .val (.int md), .val (.long x1), .second, .val (.long y1), .second, .val (.long x2), .second, .val (.long y2), .second, .val (.ref b1), .val (.ref b3), .val (.int bb), .val (.ref r)] [(.int (own_b x2 y2 x1 y1))])) st7 ?_
      refine own_st (V := T7.setTop (mkF m 127 #[.val (.long l1), .second, .val (.long c1), .second, .val (.long l2), .second, .val (.long c2), .second, .val (.int md), .val (.long x1), .second, .val (.long y1), .second, .val (.long x2), .second, .val (.long y2), .second, .val (.ref b1), .val (.ref b3), .val (.int bb), .val (.ref r)] [(.int bb), (.int (own_b x2 y2 x1 y1))])) (fun _ hk => XS.iload X7.here hx rfl (hb hby at_125) rfl  hk) ?_
      refine own_st (V := T7.setTop (mkF m 130 #[.val (.long l1), .second, .val (.long c1), .second, .val (.long l2), .second, .val (.long c2), .second, .val (.int md), .val (.long x1), .second, .val (.long y1), .second, .val (.long x2), .second, .val (.long y2), .second, .val (.ref b1), .val (.ref b3), .val (.int bb), .val (.ref r)] [])) (fun _ hk => XS.icmpNo X7.here hx rfl (hb hby at_127) rfl (teq (show (own_b x2 y2 x1 y1) = bb from (own_b_comm _ _ _ _).trans hbb.symm)).2 hk) ?_
      refine own_st (V := T7.setTop (mkF m 132 #[.val (.long l1), .second, .val (.long c1), .second, .val (.long l2), .second, .val (.long c2), .second, .val (.int md), .val (.long x1), .second, .val (.long y1), .second, .val (.long x2), .second, .val (.long y2), .second, .val (.ref b1), .val (.ref b3), .val (.int bb), .val (.ref r)] [(.ref b1)])) (fun _ hk => XS.aload X7.here hx rfl (hb hby at_130) rfl rfl hk) ?_
      refine own_st (V := T7.setTop (mkF m 134 #[.val (.long l1), .second, .val (.long c1), .second, .val (.long l2), .second, .val (.long c2), .second, .val (.int md), .val (.long x1), .second, .val (.long y1), .second, .val (.long x2), .second, .val (.long y2), .second, .val (.ref b1), .val (.ref b3), .val (.int bb), .val (.ref r)] [(.ref b1), (.ref b1)])) (fun _ hk => XS.aload X7.here hx rfl (hb hby at_132) rfl rfl hk) ?_
      obtain ⟨cq8, kq8, q8a, q8b, q8c⟩ := isOf hZ es7 E_b1
      obtain ⟨_, _, ⟨T8, L8, k8, n8⟩, -, X8, ⟨Lc8, hQ8, l8, y8, z8⟩, st8⟩ := X7.virtualBack hx (y := (⟨"com/example/heapwright/heapwright/logic/smtlib/SourcePosition", "equals", "(Ljava/lang/Object;)Z"⟩ : MethodName)) (z := (⟨"com/example/heapwright/heapwright/logic/smtlib/SourcePosition", "equals", "(Ljava/lang/Object;)Z"⟩ : MethodName)) hown (mvT hZ (hw _ (List.mem_of_getElem? (i := 30) rfl))) (mvT hZ (hw _ (List.mem_of_getElem? (i := 31) rfl))) (notFace_of_selects (args := #[]) (mvT hZ (hw _ (List.mem_of_getElem? (i := 33) rfl)))) (mvT hZ (hw _ (List.mem_of_getElem? (i := 33) rfl))) (mvT hZ (hw _ (List.mem_of_getElem? (i := 32) rfl))) (by decide) (backOf (W := 0) (rm_eqO l Z a0 hw [] b1 b1 x1 y1 x1 y1 T5.heap n0 Z0 E_b1 F_line_a F_col_a F_line_a F_col_a) hZ (hw _ (List.mem_of_getElem? (i := 34) rfl)) (hw _ (List.mem_of_getElem? (i := 11) rfl)) (by decide) (by decide)) q8a q8c (g := (mkF m 134 #[.val (.long l1), .second, .val (.long c1), .second, .val (.long l2), .second, .val (.long c2), .second, .val (.int md), .val (.long x1), .second, .val (.long y1), .second, .val (.long x2), .second, .val (.long y2), .second, .val (.ref b1), .val (.ref b3), .val (.int bb), .val (.ref r)] [(.ref b1), (.ref b1)])) rfl (by rw [hml]; rfl) (Steps.refl _) (argsL := [(.ref b1)]) (rest := []) (lenOf own_pd5 rfl) rfl (by show 2 * 0 + _ ≤ _; exact Nat.le_of_eq rfl) (hb hby at_134) (fun _ _ => ⟨rfl, es7, (by decide : 3 + 0 ≤ _), (by decide : 5 + 0 ≤ _)⟩)
      dsimp only [Pt.U, Pt.locs, Pt.cells, Pt.slots] at X8 l8 y8 z8 st8 hQ8
      subst l8 y8 z8
      obtain ⟨rfl, N8q, es8⟩ := hQ8
      have N8 := Fr.app N7 N8q
      refine own_tr (V := T8.setTop (mkF m 137 #[.val (.long l1), .second, .val (.long c1), .second, .val (.long l2), .second, .val (.long c2), .second, .val (.int md), .val (.long x1), .second, .val (.long y1), .second, .val (.long x2), .second, .val (.long y2), .second, .val (.ref b1), .val (.ref b3), .val (.int bb), .val (.ref r)] [(.int (own_b x1 y1 x1 y1))])) st8 ?_
      refine own_st (V := T8.setTop (mkF m 140 #[.val (.long l1), .second, .val (.long c1), .second, .val (.long l2), .second, .val (.long c2), .second, .val (.int md), .val (.long x1), .second, .val (.long y1), .second, .val (.long x2), .second, .val (.long y2), .second, .val (.ref b1), .val (.ref b3), .val (.int bb), .val (.ref r)] [])) (fun _ hk => XS.ifNo X8.here hx rfl (hb hby at_137) rfl ((if0 _ _).trans (feq (show ¬ ((own_b x1 y1 x1 y1) = (0 : Int32)) from (by rw [own_b_self]; decide))).1) hk) ?_
      refine own_st (V := T8.setTop (mkF m 142 #[.val (.long l1), .second, .val (.long c1), .second, .val (.long l2), .second, .val (.long c2), .second, .val (.int md), .val (.long x1), .second, .val (.long y1), .second, .val (.long x2), .second, .val (.long y2), .second, .val (.ref b1), .val (.ref b3), .val (.int bb), .val (.ref r)] [(.ref b1)])) (fun _ hk => XS.aload X8.here hx rfl (hb hby at_140) rfl rfl hk) ?_
      refine own_st (V := T8.setTop (mkF m 143 #[.val (.long l1), .second, .val (.long c1), .second, .val (.long l2), .second, .val (.long c2), .second, .val (.int md), .val (.long x1), .second, .val (.long y1), .second, .val (.long x2), .second, .val (.long y2), .second, .val (.ref b1), .val (.ref b3), .val (.int bb), .val (.ref r)] [.null, (.ref b1)])) (fun _ hk => XS.aconstNull X8.here hx rfl (hb hby at_142) hk) ?_
      obtain ⟨cq9, kq9, q9a, q9b, q9c⟩ := isOf hZ es8 E_b1
      obtain ⟨_, _, ⟨T9, L9, k9, n9⟩, -, X9, ⟨Lc9, hQ9, l9, y9, z9⟩, st9⟩ := X8.virtualBack hx (y := (⟨"com/example/heapwright/heapwright/logic/smtlib/SourcePosition", "equals", "(Ljava/lang/Object;)Z"⟩ : MethodName)) (z := (⟨"com/example/heapwright/heapwright/logic/smtlib/SourcePosition", "equals", "(Ljava/lang/Object;)Z"⟩ : MethodName)) hown (mvT hZ (hw _ (List.mem_of_getElem? (i := 30) rfl))) (mvT hZ (hw _ (List.mem_of_getElem? (i := 31) rfl))) (notFace_of_selects (args := #[]) (mvT hZ (hw _ (List.mem_of_getElem? (i := 33) rfl)))) (mvT hZ (hw _ (List.mem_of_getElem? (i := 33) rfl))) (mvT hZ (hw _ (List.mem_of_getElem? (i := 32) rfl))) (by decide) (backOf (W := 0) (rm_eqN l Z a0 hw [] b1 T5.heap n0 Z0) hZ (hw _ (List.mem_of_getElem? (i := 34) rfl)) (hw _ (List.mem_of_getElem? (i := 11) rfl)) (by decide) (by decide)) q9a q9c (g := (mkF m 143 #[.val (.long l1), .second, .val (.long c1), .second, .val (.long l2), .second, .val (.long c2), .second, .val (.int md), .val (.long x1), .second, .val (.long y1), .second, .val (.long x2), .second, .val (.long y2), .second, .val (.ref b1), .val (.ref b3), .val (.int bb), .val (.ref r)] [.null, (.ref b1)])) rfl (by rw [hml]; rfl) (Steps.refl _) (argsL := [.null]) (rest := []) (lenOf own_pd5 rfl) rfl (by show 2 * 0 + _ ≤ _; exact Nat.le_of_eq rfl) (hb hby at_143) (fun _ _ => ⟨rfl, es8, (by decide : 3 + 0 ≤ _), (by decide : 5 + 0 ≤ _)⟩)
      dsimp only [Pt.U, Pt.locs, Pt.cells, Pt.slots] at X9 l9 y9 z9 st9 hQ9
      subst l9 y9 z9
      obtain ⟨rfl, N9q, es9⟩ := hQ9
      have N9 := Fr.app N8 N9q
      refine own_tr (V := T9.setTop (mkF m 146 #[.val (.long l1), .second, .val (.long c1), .second, .val (.long l2), .second, .val (.long c2), .second, .val (.int md), .val (.long x1), .second, .val (.long y1), .second, .val (.long x2), .second, .val (.long y2), .second, .val (.ref b1), .val (.ref b3), .val (.int bb), .val (.ref r)] [(.int (0 : Int32))])) st9 ?_
      refine own_st (V := T9.setTop (mkF m 149 #[.val (.long l1), .second, .val (.long c1), .second, .val (.long l2), .second, .val (.long c2), .second, .val (.int md), .val (.long x1), .second, .val (.long y1), .second, .val (.long x2), .second, .val (.long y2), .second, .val (.ref b1), .val (.ref b3), .val (.int bb), .val (.ref r)] [])) (fun _ hk => XS.ifNo X9.here hx rfl (hb hby at_146) rfl ((if0 _ _).trans (teq (show (0 : Int32) = (0 : Int32) from rfl)).2) hk) ?_
      refine own_st (V := T9.setTop (mkF m 151 #[.val (.long l1), .second, .val (.long c1), .second, .val (.long l2), .second, .val (.long c2), .second, .val (.int md), .val (.long x1), .second, .val (.long y1), .second, .val (.long x2), .second, .val (.long y2), .second, .val (.ref b1), .val (.ref b3), .val (.int bb), .val (.ref r)] [(.ref b1)])) (fun _ hk => XS.aload X9.here hx rfl (hb hby at_149) rfl rfl hk) ?_
      refine own_st (V := T9.setTop (mkF m 153 #[.val (.long l1), .second, .val (.long c1), .second, .val (.long l2), .second, .val (.long c2), .second, .val (.int md), .val (.long x1), .second, .val (.long y1), .second, .val (.long x2), .second, .val (.long y2), .second, .val (.ref b1), .val (.ref b3), .val (.int bb), .val (.ref r)] [(.ref r), (.ref b1)])) (fun _ hk => XS.aload X9.here hx rfl (hb hby at_151) rfl rfl hk) ?_
      obtain ⟨cq10, kq10, q10a, q10b, q10c⟩ := isOf hZ es9 E_b1
      obtain ⟨_, _, ⟨T10, L10, k10, n10⟩, -, X10, ⟨Lc10, hQ10, l10, y10, z10⟩, st10⟩ := X9.virtualBack hx (y := (⟨"com/example/heapwright/heapwright/logic/smtlib/SourcePosition", "equals", "(Ljava/lang/Object;)Z"⟩ : MethodName)) (z := (⟨"com/example/heapwright/heapwright/logic/smtlib/SourcePosition", "equals", "(Ljava/lang/Object;)Z"⟩ : MethodName)) hown (mvT hZ (hw _ (List.mem_of_getElem? (i := 30) rfl))) (mvT hZ (hw _ (List.mem_of_getElem? (i := 31) rfl))) (notFace_of_selects (args := #[]) (mvT hZ (hw _ (List.mem_of_getElem? (i := 33) rfl)))) (mvT hZ (hw _ (List.mem_of_getElem? (i := 33) rfl))) (mvT hZ (hw _ (List.mem_of_getElem? (i := 32) rfl))) (by decide) (backOf (W := 0) (rm_eqX l Z a0 hw [] b1 r T5.heap n0 Z0 E_r) hZ (hw _ (List.mem_of_getElem? (i := 34) rfl)) (hw _ (List.mem_of_getElem? (i := 11) rfl)) (by decide) (by decide)) q10a q10c (g := (mkF m 153 #[.val (.long l1), .second, .val (.long c1), .second, .val (.long l2), .second, .val (.long c2), .second, .val (.int md), .val (.long x1), .second, .val (.long y1), .second, .val (.long x2), .second, .val (.long y2), .second, .val (.ref b1), .val (.ref b3), .val (.int bb), .val (.ref r)] [(.ref r), (.ref b1)])) rfl (by rw [hml]; rfl) (Steps.refl _) (argsL := [(.ref r)]) (rest := []) (lenOf own_pd5 rfl) rfl (by show 2 * 0 + _ ≤ _; exact Nat.le_of_eq rfl) (hb hby at_153) (fun _ _ => ⟨rfl, es9, (by decide : 3 + 0 ≤ _), (by decide : 5 + 0 ≤ _)⟩)
      dsimp only [Pt.U, Pt.locs, Pt.cells, Pt.slots] at X10 l10 y10 z10 st10 hQ10
      subst l10 y10 z10
      obtain ⟨rfl, N10q, es10⟩ := hQ10
      have N10 := Fr.app N9 N10q
      refine own_tr (V := T10.setTop (mkF m 156 #[.val (.long l1), .second, .val (.long c1), .second, .val (.long l2), .second, .val (.long c2), .second, .val (.int md), .val (.long x1), .second, .val (.long y1), .second, .val (.long x2), .second, .val (.long y2), .second, .val (.ref b1), .val (.ref b3), .val (.int bb), .val (.ref r)] [(.int (0 : Int32))])) st10 ?_
      refine own_st (V := T10.setTop (mkF m 159 #[.val (.long l1), .second, .val (.long c1), .second, .val (.long l2), .second, .val (.long c2), .second, .val (.int md), .val (.long x1), .second, .val (.long y1), .second, .val (.long x2), .second, .val (.long y2), .second, .val (.ref b1), .val (.ref b3), .val (.int bb), .val (.ref r)] [])) (fun _ hk => XS.ifNo X10.here hx rfl (hb hby at_156) rfl ((if0 _ _).trans (teq (show (0 : Int32) = (0 : Int32) from rfl)).2) hk) ?_
      refine own_st (V := T10.setTop (mkF m 160 #[.val (.long l1), .second, .val (.long c1), .second, .val (.long l2), .second, .val (.long c2), .second, .val (.int md), .val (.long x1), .second, .val (.long y1), .second, .val (.long x2), .second, .val (.long y2), .second, .val (.ref b1), .val (.ref b3), .val (.int bb), .val (.ref r)] [(.int (1 : Int32))])) (fun _ hk => XS.iconst X10.here hx rfl (hb hby at_159) hk) ?_
      refine own_st (V := T10.setTop (mkF m 164 #[.val (.long l1), .second, .val (.long c1), .second, .val (.long l2), .second, .val (.long c2), .second, .val (.int md), .val (.long x1), .second, .val (.long y1), .second, .val (.long x2), .second, .val (.long y2), .second, .val (.ref b1), .val (.ref b3), .val (.int bb), .val (.ref r)] [(.int (1 : Int32))])) (fun _ hk => XS.goto X10.here hx rfl (pc0 := 160) (pc' := 164) rfl (hb hby at_160) (by decide) (by decide) hk) ?_
      exact own_retN X10 hx Bd.notSynchronized Bd.returns rfl (by simp) (hb hby at_164) (by decide) (by decide) (fun U hU hE => hF _ _ ⟨_, _, rfl, (by rw [hU, es10]; exact ⟨rfl, N10⟩), hE⟩)
    by_cases hc81 : (lcmpW x1 x2) = (0 : Int32)
    · skip
      refine own_st (V := T4.setTop (mkF m 84 #[.val (.long l1), .second, .val (.long c1), .second, .val (.long l2), .second, .val (.long c2), .second, .val (.int md), .val (.long x1), .second, .val (.long y1), .second, .val (.long x2), .second, .val (.long y2), .second, .val (.ref b1), .val (.ref b3), .unset, .unset] [])) (fun _ hk => XS.ifNo X4.here hx rfl (hb hby at_81) rfl ((if0 _ _).trans (teq (show (lcmpW x1 x2) = (0 : Int32) from hc81)).2) hk) ?_
      refine own_st (V := T4.setTop (mkF m 86 #[.val (.long l1), .second, .val (.long c1), .second, .val (.long l2), .second, .val (.long c2), .second, .val (.int md), .val (.long x1), .second, .val (.long y1), .second, .val (.long x2), .second, .val (.long y2), .second, .val (.ref b1), .val (.ref b3), .unset, .unset] [(.long y1)])) (fun _ hk => XS.lload X4.here hx rfl (hb hby at_84) rfl  hk) ?_
      refine own_st (V := T4.setTop (mkF m 88 #[.val (.long l1), .second, .val (.long c1), .second, .val (.long l2), .second, .val (.long c2), .second, .val (.int md), .val (.long x1), .second, .val (.long y1), .second, .val (.long x2), .second, .val (.long y2), .second, .val (.ref b1), .val (.ref b3), .unset, .unset] [(.long y2), (.long y1)])) (fun _ hk => XS.lload X4.here hx rfl (hb hby at_86) rfl  hk) ?_
      refine own_st (V := T4.setTop (mkF m 89 #[.val (.long l1), .second, .val (.long c1), .second, .val (.long l2), .second, .val (.long c2), .second, .val (.int md), .val (.long x1), .second, .val (.long y1), .second, .val (.long x2), .second, .val (.long y2), .second, .val (.ref b1), .val (.ref b3), .unset, .unset] [(.int (lcmpW y1 y2))])) (fun _ hk => XS.lcmp X4.here hx rfl (hb hby at_88) rfl hk) ?_
      by_cases hc89 : (lcmpW y1 y2) = (0 : Int32)
      · skip
        refine own_st (V := T4.setTop (mkF m 92 #[.val (.long l1), .second, .val (.long c1), .second, .val (.long l2), .second, .val (.long c2), .second, .val (.int md), .val (.long x1), .second, .val (.long y1), .second, .val (.long x2), .second, .val (.long y2), .second, .val (.ref b1), .val (.ref b3), .unset, .unset] [])) (fun _ hk => XS.ifNo X4.here hx rfl (hb hby at_89) rfl ((if0 _ _).trans (teq (show (lcmpW y1 y2) = (0 : Int32) from hc89)).2) hk) ?_
        refine own_st (V := T4.setTop (mkF m 93 #[.val (.long l1), .second, .val (.long c1), .second, .val (.long l2), .second, .val (.long c2), .second, .val (.int md), .val (.long x1), .second, .val (.long y1), .second, .val (.long x2), .second, .val (.long y2), .second, .val (.ref b1), .val (.ref b3), .unset, .unset] [(.int (1 : Int32))])) (fun _ hk => XS.iconst X4.here hx rfl (hb hby at_92) hk) ?_
        refine own_st (V := T4.setTop (mkF m 97 #[.val (.long l1), .second, .val (.long c1), .second, .val (.long l2), .second, .val (.long c2), .second, .val (.int md), .val (.long x1), .second, .val (.long y1), .second, .val (.long x2), .second, .val (.long y2), .second, .val (.ref b1), .val (.ref b3), .unset, .unset] [(.int (1 : Int32))])) (fun _ hk => XS.goto X4.here hx rfl (pc0 := 93) (pc' := 97) rfl (hb hby at_93) (by decide) (by decide) hk) ?_
        exact J97 _ (if_pos ⟨(lw_eq _ _).mp hc81, (lw_eq _ _).mp hc89⟩).symm
      · skip
        refine own_st (V := T4.setTop (mkF m 96 #[.val (.long l1), .second, .val (.long c1), .second, .val (.long l2), .second, .val (.long c2), .second, .val (.int md), .val (.long x1), .second, .val (.long y1), .second, .val (.long x2), .second, .val (.long y2), .second, .val (.ref b1), .val (.ref b3), .unset, .unset] [])) (fun _ hk => XS.ifYes X4.here hx rfl (pc0 := 89) (pc' := 96) rfl (hb hby at_89) rfl ((if0 _ _).trans (feq (show ¬ ((lcmpW y1 y2) = (0 : Int32)) from hc89)).2) (by decide) (by decide) hk) ?_
        refine own_st (V := T4.setTop (mkF m 97 #[.val (.long l1), .second, .val (.long c1), .second, .val (.long l2), .second, .val (.long c2), .second, .val (.int md), .val (.long x1), .second, .val (.long y1), .second, .val (.long x2), .second, .val (.long y2), .second, .val (.ref b1), .val (.ref b3), .unset, .unset] [(.int (0 : Int32))])) (fun _ hk => XS.iconst X4.here hx rfl (hb hby at_96) hk) ?_
        exact J97 _ (own_b_no2 fun k => hc89 ((lw_eq _ _).mpr k)).symm
    · skip
      refine own_st (V := T4.setTop (mkF m 96 #[.val (.long l1), .second, .val (.long c1), .second, .val (.long l2), .second, .val (.long c2), .second, .val (.int md), .val (.long x1), .second, .val (.long y1), .second, .val (.long x2), .second, .val (.long y2), .second, .val (.ref b1), .val (.ref b3), .unset, .unset] [])) (fun _ hk => XS.ifYes X4.here hx rfl (pc0 := 81) (pc' := 96) rfl (hb hby at_81) rfl ((if0 _ _).trans (feq (show ¬ ((lcmpW x1 x2) = (0 : Int32)) from hc81)).2) (by decide) (by decide) hk) ?_
      refine own_st (V := T4.setTop (mkF m 97 #[.val (.long l1), .second, .val (.long c1), .second, .val (.long l2), .second, .val (.long c2), .second, .val (.int md), .val (.long x1), .second, .val (.long y1), .second, .val (.long x2), .second, .val (.long y2), .second, .val (.ref b1), .val (.ref b3), .unset, .unset] [(.int (0 : Int32))])) (fun _ hk => XS.iconst X4.here hx rfl (hb hby at_96) hk) ?_
      exact J97 _ (own_b_no1 fun k => hc81 ((lw_eq _ _).mpr k)).symm
  have J29 : ∀ (T_J29 : State) (locs_J29 : List Loc) (X_J29 : Stand p l e room_1 s m #[(.long l1), (.long c1), (.long l2), (.long c2), (.int md)] below meth c T_J29 locs_J29 0 0) (e_J29 : T_J29.heap = h0) (N_J29 : Fr n0 locs_J29) (x2 : Int64) (px2 : ¬ x2 < 1), own_G p e below F (T_J29.setTop (mkF m 29 #[.val (.long l1), .second, .val (.long c1), .second, .val (.long l2), .second, .val (.long c2), .second, .val (.int md), .val (.long x1), .second, .val (.long y1), .second, .unset, .unset, .unset, .unset, .unset, .unset, .unset, .unset] [(.long x2)])) := by
    intro T_J29 locs_J29 X_J29 e_J29 N_J29 x2 px2
    refine own_st (V := T_J29.setTop (mkF m 31 #[.val (.long l1), .second, .val (.long c1), .second, .val (.long l2), .second, .val (.long c2), .second, .val (.int md), .val (.long x1), .second, .val (.long y1), .second, .val (.long x2), .second, .unset, .unset, .unset, .unset, .unset, .unset] [])) (fun _ hk => XS.lstore X_J29.here hx rfl (hb hby at_29) rfl  (l' := #[.val (.long l1), .second, .val (.long c1), .second, .val (.long l2), .second, .val (.long c2), .second, .val (.int md), .val (.long x1), .second, .val (.long y1), .second, .val (.long x2), .second, .unset, .unset, .unset, .unset, .unset, .unset]) rfl hk) ?_
    refine own_st (V := T_J29.setTop (mkF m 33 #[.val (.long l1), .second, .val (.long c1), .second, .val (.long l2), .second, .val (.long c2), .second, .val (.int md), .val (.long x1), .second, .val (.long y1), .second, .val (.long x2), .second, .unset, .unset, .unset, .unset, .unset, .unset] [(.int md)])) (fun _ hk => XS.iload X_J29.here hx rfl (hb hby at_31) rfl  hk) ?_
    refine own_st (V := T_J29.setTop (mkF m 34 #[.val (.long l1), .second, .val (.long c1), .second, .val (.long l2), .second, .val (.long c2), .second, .val (.int md), .val (.long x1), .second, .val (.long y1), .second, .val (.long x2), .second, .unset, .unset, .unset, .unset, .unset, .unset] [(.int (2 : Int32)), (.int md)])) (fun _ hk => XS.iconst X_J29.here hx rfl (hb hby at_33) hk) ?_
    refine own_st (V := T_J29.setTop (mkF m 35 #[.val (.long l1), .second, .val (.long c1), .second, .val (.long l2), .second, .val (.long c2), .second, .val (.int md), .val (.long x1), .second, .val (.long y1), .second, .val (.long x2), .second, .unset, .unset, .unset, .unset, .unset, .unset] [(.int (md &&& (2 : Int32)))])) (fun _ hk => XS.iand X_J29.here hx rfl (hb hby at_34) rfl hk) ?_
    by_cases hc35 : (md &&& (2 : Int32)) = (0 : Int32)
    · skip
      refine own_st (V := T_J29.setTop (mkF m 43 #[.val (.long l1), .second, .val (.long c1), .second, .val (.long l2), .second, .val (.long c2), .second, .val (.int md), .val (.long x1), .second, .val (.long y1), .second, .val (.long x2), .second, .unset, .unset, .unset, .unset, .unset, .unset] [])) (fun _ hk => XS.ifYes X_J29.here hx rfl (pc0 := 35) (pc' := 43) rfl (hb hby at_35) rfl ((if0 _ _).trans (teq (show (md &&& (2 : Int32)) = (0 : Int32) from hc35)).1) (by decide) (by decide) hk) ?_
      refine own_st (V := T_J29.setTop (mkF m 45 #[.val (.long l1), .second, .val (.long c1), .second, .val (.long l2), .second, .val (.long c2), .second, .val (.int md), .val (.long x1), .second, .val (.long y1), .second, .val (.long x2), .second, .unset, .unset, .unset, .unset, .unset, .unset] [(.long c2)])) (fun _ hk => XS.lload X_J29.here hx rfl (hb hby at_43) rfl  hk) ?_
      obtain ⟨_, _, ⟨T11, L11, k11, n11⟩, -, X11, ⟨Lc11, hQ11, l11, y11, z11⟩, st11⟩ := Jvm.LawKit.callS X_J29 hx (y := (⟨"com/example/heapwright/heapwright/logic/smtlib/SourcePositionEqualsPinLaw", "pos", "(J)J"⟩ : MethodName)) hown (mvT hZ (hw _ (List.mem_of_getElem? (i := 0) rfl))) (mvT hZ (hw _ (List.mem_of_getElem? (i := 1) rfl))) (mvT hZ (hw _ (List.mem_of_getElem? (i := 2) rfl))) (mvT hZ (hw _ (List.mem_of_getElem? (i := 3) rfl))) (by decide) (backOf (W := 0) (rm_pos l Z a0 hw [] c2 h0 n0 Z0) hZ (hw _ (List.mem_of_getElem? (i := 3) rfl)) (hw _ (List.mem_of_getElem? (i := 2) rfl)) (by decide) (by decide)) (g := (mkF m 45 #[.val (.long l1), .second, .val (.long c1), .second, .val (.long l2), .second, .val (.long c2), .second, .val (.int md), .val (.long x1), .second, .val (.long y1), .second, .val (.long x2), .second, .unset, .unset, .unset, .unset, .unset, .unset] [(.long c2)])) rfl (by rw [hml]; rfl) (argsL := [(.long c2)]) (rest := []) (lenOf own_pd6 rfl) rfl (by show 2 * 0 + _ ≤ _; exact Nat.le_of_eq rfl) (hb hby at_45) (fun _ _ => ⟨rfl, e_J29, (by decide : 0 + 0 ≤ _), (by decide : 0 + 0 ≤ _)⟩)
      dsimp only [Pt.U, Pt.locs, Pt.cells, Pt.slots] at X11 l11 y11 z11 st11 hQ11
      subst l11 y11 z11
      obtain ⟨rfl, N11q, es11⟩ := hQ11
      have N11 := Fr.app N_J29 N11q
      refine own_st (V := T11.setTop (mkF m 48 #[.val (.long l1), .second, .val (.long c1), .second, .val (.long l2), .second, .val (.long c2), .second, .val (.int md), .val (.long x1), .second, .val (.long y1), .second, .val (.long x2), .second, .unset, .unset, .unset, .unset, .unset, .unset] [(.long (own_max 1 (c2 &&& (9223372036854775807 : Int64))))])) st11 ?_
      exact J48 _ _ X11 es11 N11 x2 _ px2 (own_max_ge _ _)
    · skip
      refine own_st (V := T_J29.setTop (mkF m 38 #[.val (.long l1), .second, .val (.long c1), .second, .val (.long l2), .second, .val (.long c2), .second, .val (.int md), .val (.long x1), .second, .val (.long y1), .second, .val (.long x2), .second, .unset, .unset, .unset, .unset, .unset, .unset] [])) (fun _ hk => XS.ifNo X_J29.here hx rfl (hb hby at_35) rfl ((if0 _ _).trans (feq (show ¬ ((md &&& (2 : Int32)) = (0 : Int32)) from hc35)).1) hk) ?_
      refine own_st (V := T_J29.setTop (mkF m 40 #[.val (.long l1), .second, .val (.long c1), .second, .val (.long l2), .second, .val (.long c2), .second, .val (.int md), .val (.long x1), .second, .val (.long y1), .second, .val (.long x2), .second, .unset, .unset, .unset, .unset, .unset, .unset] [(.long y1)])) (fun _ hk => XS.lload X_J29.here hx rfl (hb hby at_38) rfl  hk) ?_
      refine own_st (V := T_J29.setTop (mkF m 48 #[.val (.long l1), .second, .val (.long c1), .second, .val (.long l2), .second, .val (.long c2), .second, .val (.int md), .val (.long x1), .second, .val (.long y1), .second, .val (.long x2), .second, .unset, .unset, .unset, .unset, .unset, .unset] [(.long y1)])) (fun _ hk => XS.goto X_J29.here hx rfl (pc0 := 40) (pc' := 48) rfl (hb hby at_40) (by decide) (by decide) hk) ?_
      exact J48 _ _ X_J29 e_J29 N_J29 x2 y1 px2 py1
  refine own_st (V := s₁.setTop (mkF m 1 #[.val (.long l1), .second, .val (.long c1), .second, .val (.long l2), .second, .val (.long c2), .second, .val (.int md), .unset, .unset, .unset, .unset, .unset, .unset, .unset, .unset, .unset, .unset, .unset, .unset] [(.long l1)])) (fun _ hk => XS.lloadN X0.here hx rfl (hb hby at_0) rfl  hk) ?_
  obtain ⟨_, _, ⟨T12, L12, k12, n12⟩, -, X12, ⟨Lc12, hQ12, l12, y12, z12⟩, st12⟩ := Jvm.LawKit.callS X0 hx (y := (⟨"com/example/heapwright/heapwright/logic/smtlib/SourcePositionEqualsPinLaw", "pos", "(J)J"⟩ : MethodName)) hown (mvT hZ (hw _ (List.mem_of_getElem? (i := 0) rfl))) (mvT hZ (hw _ (List.mem_of_getElem? (i := 1) rfl))) (mvT hZ (hw _ (List.mem_of_getElem? (i := 2) rfl))) (mvT hZ (hw _ (List.mem_of_getElem? (i := 3) rfl))) (by decide) (backOf (W := 0) (rm_pos l Z a0 hw [] l1 h0 n0 Z0) hZ (hw _ (List.mem_of_getElem? (i := 3) rfl)) (hw _ (List.mem_of_getElem? (i := 2) rfl)) (by decide) (by decide)) (g := (mkF m 1 #[.val (.long l1), .second, .val (.long c1), .second, .val (.long l2), .second, .val (.long c2), .second, .val (.int md), .unset, .unset, .unset, .unset, .unset, .unset, .unset, .unset, .unset, .unset, .unset, .unset] [(.long l1)])) rfl (by rw [hml]; rfl) (argsL := [(.long l1)]) (rest := []) (lenOf own_pd6 rfl) rfl (by show 2 * 0 + _ ≤ _; exact Nat.le_of_eq rfl) (hb hby at_1) (fun _ _ => ⟨rfl, e0, (by decide : 0 + 0 ≤ _), (by decide : 0 + 0 ≤ _)⟩)
  dsimp only [Pt.U, Pt.locs, Pt.cells, Pt.slots] at X12 l12 y12 z12 st12 hQ12
  subst l12 y12 z12
  obtain ⟨rfl, N12q, es12⟩ := hQ12
  have N12 := Fr.app N0 N12q
  refine own_st (V := T12.setTop (mkF m 4 #[.val (.long l1), .second, .val (.long c1), .second, .val (.long l2), .second, .val (.long c2), .second, .val (.int md), .unset, .unset, .unset, .unset, .unset, .unset, .unset, .unset, .unset, .unset, .unset, .unset] [(.long (own_max 1 (l1 &&& (9223372036854775807 : Int64))))])) st12 ?_
  rw [← hx1]
  refine own_st (V := T12.setTop (mkF m 6 #[.val (.long l1), .second, .val (.long c1), .second, .val (.long l2), .second, .val (.long c2), .second, .val (.int md), .val (.long x1), .second, .unset, .unset, .unset, .unset, .unset, .unset, .unset, .unset, .unset, .unset] [])) (fun _ hk => XS.lstore X12.here hx rfl (hb hby at_4) rfl  (l' := #[.val (.long l1), .second, .val (.long c1), .second, .val (.long l2), .second, .val (.long c2), .second, .val (.int md), .val (.long x1), .second, .unset, .unset, .unset, .unset, .unset, .unset, .unset, .unset, .unset, .unset]) rfl hk) ?_
  refine own_st (V := T12.setTop (mkF m 7 #[.val (.long l1), .second, .val (.long c1), .second, .val (.long l2), .second, .val (.long c2), .second, .val (.int md), .val (.long x1), .second, .unset, .unset, .unset, .unset, .unset, .unset, .unset, .unset, .unset, .unset] [(.long c1)])) (fun _ hk => XS.lloadN X12.here hx rfl (hb hby at_6) rfl  hk) ?_
  obtain ⟨_, _, ⟨T13, L13, k13, n13⟩, -, X13, ⟨Lc13, hQ13, l13, y13, z13⟩, st13⟩ := Jvm.LawKit.callS X12 hx (y := (⟨"com/example/heapwright/heapwright/logic/smtlib/SourcePositionEqualsPinLaw", "pos", "(J)J"⟩ : MethodName)) hown (mvT hZ (hw _ (List.mem_of_getElem? (i := 0) rfl))) (mvT hZ (hw _ (List.mem_of_getElem? (i := 1) rfl))) (mvT hZ (hw _ (List.mem_of_getElem? (i := 2) rfl))) (mvT hZ (hw _ (List.mem_of_getElem? (i := 3) rfl))) (by decide) (backOf (W := 0) (rm_pos l Z a0 hw [] c1 h0 n0 Z0) hZ (hw _ (List.mem_of_getElem? (i := 3) rfl)) (hw _ (List.mem_of_getElem? (i := 2) rfl)) (by decide) (by decide)) (g := (mkF m 7 #[.val (.long l1), .second, .val (.long c1), .second, .val (.long l2), .second, .val (.long c2), .second, .val (.int md), .val (.long x1), .second, .unset, .unset, .unset, .unset, .unset, .unset, .unset, .unset, .unset, .unset] [(.long c1)])) rfl (by rw [hml]; rfl) (argsL := [(.long c1)]) (rest := []) (lenOf own_pd6 rfl) rfl (by show 2 * 0 + _ ≤ _; exact Nat.le_of_eq rfl) (hb hby at_7) (fun _ _ => ⟨rfl, es12, (by decide : 0 + 0 ≤ _), (by decide : 0 + 0 ≤ _)⟩)
  dsimp only [Pt.U, Pt.locs, Pt.cells, Pt.slots] at X13 l13 y13 z13 st13 hQ13
  subst l13 y13 z13
  obtain ⟨rfl, N13q, es13⟩ := hQ13
  have N13 := Fr.app N12 N13q
  refine own_st (V := T13.setTop (mkF m 10 #[.val (.long l1), .second, .val (.long c1), .second, .val (.long l2), .second, .val (.long c2), .second, .val (.int md), .val (.long x1), .second, .unset, .unset, .unset, .unset, .unset, .unset, .unset, .unset, .unset, .unset] [(.long (own_max 1 (c1 &&& (9223372036854775807 : Int64))))])) st13 ?_
  rw [← hy1]
  refine own_st (V := T13.setTop (mkF m 12 #[.val (.long l1), .second, .val (.long c1), .second, .val (.long l2), .second, .val (.long c2), .second, .val (.int md), .val (.long x1), .second, .val (.long y1), .second, .unset, .unset, .unset, .unset, .unset, .unset, .unset, .unset] [])) (fun _ hk => XS.lstore X13.here hx rfl (hb hby at_10) rfl  (l' := #[.val (.long l1), .second, .val (.long c1), .second, .val (.long l2), .second, .val (.long c2), .second, .val (.int md), .val (.long x1), .second, .val (.long y1), .second, .unset, .unset, .unset, .unset, .unset, .unset, .unset, .unset]) rfl hk) ?_
  refine own_st (V := T13.setTop (mkF m 14 #[.val (.long l1), .second, .val (.long c1), .second, .val (.long l2), .second, .val (.long c2), .second, .val (.int md), .val (.long x1), .second, .val (.long y1), .second, .unset, .unset, .unset, .unset, .unset, .unset, .unset, .unset] [(.int md)])) (fun _ hk => XS.iload X13.here hx rfl (hb hby at_12) rfl  hk) ?_
  refine own_st (V := T13.setTop (mkF m 15 #[.val (.long l1), .second, .val (.long c1), .second, .val (.long l2), .second, .val (.long c2), .second, .val (.int md), .val (.long x1), .second, .val (.long y1), .second, .unset, .unset, .unset, .unset, .unset, .unset, .unset, .unset] [(.int (1 : Int32)), (.int md)])) (fun _ hk => XS.iconst X13.here hx rfl (hb hby at_14) hk) ?_
  refine own_st (V := T13.setTop (mkF m 16 #[.val (.long l1), .second, .val (.long c1), .second, .val (.long l2), .second, .val (.long c2), .second, .val (.int md), .val (.long x1), .second, .val (.long y1), .second, .unset, .unset, .unset, .unset, .unset, .unset, .unset, .unset] [(.int (md &&& (1 : Int32)))])) (fun _ hk => XS.iand X13.here hx rfl (hb hby at_15) rfl hk) ?_
  by_cases hc16 : (md &&& (1 : Int32)) = (0 : Int32)
  · skip
    refine own_st (V := T13.setTop (mkF m 24 #[.val (.long l1), .second, .val (.long c1), .second, .val (.long l2), .second, .val (.long c2), .second, .val (.int md), .val (.long x1), .second, .val (.long y1), .second, .unset, .unset, .unset, .unset, .unset, .unset, .unset, .unset] [])) (fun _ hk => XS.ifYes X13.here hx rfl (pc0 := 16) (pc' := 24) rfl (hb hby at_16) rfl ((if0 _ _).trans (teq (show (md &&& (1 : Int32)) = (0 : Int32) from hc16)).1) (by decide) (by decide) hk) ?_
    refine own_st (V := T13.setTop (mkF m 26 #[.val (.long l1), .second, .val (.long c1), .second, .val (.long l2), .second, .val (.long c2), .second, .val (.int md), .val (.long x1), .second, .val (.long y1), .second, .unset, .unset, .unset, .unset, .unset, .unset, .unset, .unset] [(.long l2)])) (fun _ hk => XS.lload X13.here hx rfl (hb hby at_24) rfl  hk) ?_
    obtain ⟨_, _, ⟨T14, L14, k14, n14⟩, -, X14, ⟨Lc14, hQ14, l14, y14, z14⟩, st14⟩ := Jvm.LawKit.callS X13 hx (y := (⟨"com/example/heapwright/heapwright/logic/smtlib/SourcePositionEqualsPinLaw", "pos", "(J)J"⟩ : MethodName)) hown (mvT hZ (hw _ (List.mem_of_getElem? (i := 0) rfl))) (mvT hZ (hw _ (List.mem_of_getElem? (i := 1) rfl))) (mvT hZ (hw _ (List.mem_of_getElem? (i := 2) rfl))) (mvT hZ (hw _ (List.mem_of_getElem? (i := 3) rfl))) (by decide) (backOf (W := 0) (rm_pos l Z a0 hw [] l2 h0 n0 Z0) hZ (hw _ (List.mem_of_getElem? (i := 3) rfl)) (hw _ (List.mem_of_getElem? (i := 2) rfl)) (by decide) (by decide)) (g := (mkF m 26 #[.val (.long l1), .second, .val (.long c1), .second, .val (.long l2), .second, .val (.long c2), .second, .val (.int md), .val (.long x1), .second, .val (.long y1), .second, .unset, .unset, .unset, .unset, .unset, .unset, .unset, .unset] [(.long l2)])) rfl (by rw [hml]; rfl) (argsL := [(.long l2)]) (rest := []) (lenOf own_pd6 rfl) rfl (by show 2 * 0 + _ ≤ _; exact Nat.le_of_eq rfl) (hb hby at_26) (fun _ _ => ⟨rfl, es13, (by decide : 0 + 0 ≤ _), (by decide : 0 + 0 ≤ _)⟩)
    dsimp only [Pt.U, Pt.locs, Pt.cells, Pt.slots] at X14 l14 y14 z14 st14 hQ14
    subst l14 y14 z14
    obtain ⟨rfl, N14q, es14⟩ := hQ14
    have N14 := Fr.app N13 N14q
    refine own_st (V := T14.setTop (mkF m 29 #[.val (.long l1), .second, .val (.long c1), .second, .val (.long l2), .second, .val (.long c2), .second, .val (.int md), .val (.long x1), .second, .val (.long y1), .second, .unset, .unset, .unset, .unset, .unset, .unset, .unset, .unset] [(.long (own_max 1 (l2 &&& (9223372036854775807 : Int64))))])) st14 ?_
    exact J29 _ _ X14 es14 N14 _ (own_max_ge _ _)
  · skip
    refine own_st (V := T13.setTop (mkF m 19 #[.val (.long l1), .second, .val (.long c1), .second, .val (.long l2), .second, .val (.long c2), .second, .val (.int md), .val (.long x1), .second, .val (.long y1), .second, .unset, .unset, .unset, .unset, .unset, .unset, .unset, .unset] [])) (fun _ hk => XS.ifNo X13.here hx rfl (hb hby at_16) rfl ((if0 _ _).trans (feq (show ¬ ((md &&& (1 : Int32)) = (0 : Int32)) from hc16)).1) hk) ?_
    refine own_st (V := T13.setTop (mkF m 21 #[.val (.long l1), .second, .val (.long c1), .second, .val (.long l2), .second, .val (.long c2), .second, .val (.int md), .val (.long x1), .second, .val (.long y1), .second, .unset, .unset, .unset, .unset, .unset, .unset, .unset, .unset] [(.long x1)])) (fun _ hk => XS.lload X13.here hx rfl (hb hby at_19) rfl  hk) ?_
    refine own_st (V := T13.setTop (mkF m 29 #[.val (.long l1), .second, .val (.long c1), .second, .val (.long l2), .second, .val (.long c2), .second, .val (.int md), .val (.long x1), .second, .val (.long y1), .second, .unset, .unset, .unset, .unset, .unset, .unset, .unset, .unset] [(.long x1)])) (fun _ hk => XS.goto X13.here hx rfl (pc0 := 21) (pc' := 29) rfl (hb hby at_21) (by decide) (by decide) hk) ?_
    exact J29 _ _ X13 es13 N13 x1 px1
theorem own_fold (f : Nat → Option Bool) : ∀ (L : List Nat) (b : Option Bool), L.foldl (fun acc i => match acc with | some true => f i | x => x) b = some true → b = some true ∧ ∀ i ∈ L, f i = some true
  | [], b, h => ⟨h, fun _ q => nomatch q⟩
  | x :: L, b, h => by
    rw [List.foldl_cons] at h
    obtain ⟨h1, h2⟩ := own_fold f L _ h
    have hb : b = some true := by
      cases b with
      | none => cases h1
      | some q => cases q with
        | false => cases h1
        | true => rfl
    subst hb
    exact ⟨rfl, fun i hi => (List.mem_cons.mp hi).elim (fun q => q ▸ h1) (h2 i)⟩
theorem own_all {args : Array Value} {first s : State} {o : Option Outcome} {idx : List Nat} {t : Term} {c : Jvm.Cond} {a : Addr} {cell : Cell} (h : (Jvm.Cond.all t c).value args first o s idx = some true) (ht : t.eval args first o idx s = some (.ref a)) (ha : s.arrayAt? a = some cell) : ∀ i, i < cell.slots.size → c.value args first o s (i :: idx) = some true := by
  simp only [Cond.value, ht, ha] at h
  exact fun i hi => (own_fold (fun i => c.value args first o s (i :: idx)) _ _ h).2 i (List.mem_range.mpr hi)
set_option maxRecDepth 65536 in
set_option maxHeartbeats 40000000 in
theorem comes_1 {Post : Tables → Env → Array Value → State → Outcome → State → Prop} (hpost : ∀ tb e args s v u, (limb_1_1.after args s (.returned v) u = true ∧ limb_1_2.after args s (.returned v) u = true ∧ True) → FrameEnd s (.returned v) u (Jvm.fieldLocs frame_1_writes args s ++ Jvm.arrayLocs frame_1_arrays args s ++ Jvm.staticLocs frame_1_statics s) 16 128 → Post tb e args s (.returned v) u) :
    ArmFor flags0 classFile x code maxLocals ret World_1 tables_1 room_1 Calls_1 rest_1 Pre_1 Post := by
  intro l hfl _ _ p e ha hc hk s m args below hf hA hF happ hP
  obtain ⟨hcalls, hrest, hpre⟩ := hP
  obtain ⟨-, -, -, hnamed, -, -, -, hat⟩ := (Spec.applies_iff hf).mp happ
  obtain ⟨hg, hn⟩ := and_e (Cond.before_iff.mp (show (Jvm.Cond.and given_1 narrow_1).before args s = true from hpre))
  obtain ⟨h1, g0⟩ := and_e hg
  obtain ⟨k0, g1⟩ := and_e g0
  obtain ⟨k1, g2⟩ := and_e g1
  obtain ⟨k2, g3⟩ := and_e g2
  obtain ⟨k3, g4⟩ := and_e g3
  have k4 := g4
  obtain ⟨w0, w1, w2, w3, w4, rfl⟩ : ∃ w0 w1 w2 w3 w4 : Value, args = #[w0, w1, w2, w3, w4] := by
    have hs : args.size = 5 := by simpa [Cond.value, given_1] using h1
    obtain ⟨L⟩ := args
    match L, hs with
    | [w0, w1, w2, w3, w4], _ => exact ⟨w0, w1, w2, w3, w4, rfl⟩
  have hw := fun d (hd : d ∈ tables_1) => atoms_spec (ws := Jvm.Cond.code x code maxLocals ret :: tables_1) hat d (List.mem_cons_of_mem _ hd)
  obtain ⟨hsets, hown0⟩ := atoms_of _ (rest_1_c_eq ▸ (show rest_1_c.before _ s = true from hrest))
  have hr0 := Cond.before_iff.mp hown0
  have hfit : Fit s := fun {y c} hc i hi => by
    obtain ⟨ha, rfl⟩ := Array.getElem?_eq_some_iff.mp hc
    have q := List.all_eq_true.mp ((Array.all_eq_true_iff_forall_mem.mp hF) _ (Array.getElem_mem ha)) i (List.mem_range.mpr hi)
    simpa [Array.getElem?_eq_getElem hi] using q
  obtain ⟨l1, e_l1⟩ := isL_v k0
  obtain rfl : w0 = (.long l1) := Option.some.inj e_l1
  obtain ⟨c1, e_c1⟩ := isL_v k1
  obtain rfl : w1 = (.long c1) := Option.some.inj e_c1
  obtain ⟨l2, e_l2⟩ := isL_v k2
  obtain rfl : w2 = (.long l2) := Option.some.inj e_l2
  obtain ⟨c2, e_c2⟩ := isL_v k3
  obtain rfl : w3 = (.long c2) := Option.some.inj e_c2
  obtain ⟨md, e_md⟩ := is_v k4
  obtain rfl : w4 = (.int md) := Option.some.inj e_md
  obtain ⟨ca, eca⟩ := arr_v (Cond.before_iff.mp (hsets _ (List.mem_of_getElem? (i := 2) rfl)))
  obtain ⟨cl, hArr⟩ := Arr.start eca (Cond.before_iff.mp (hsets _ (List.mem_of_getElem? (i := 2) rfl)))
  have hat1 := hArr.fin (Vm.Alike.refl s.vm)
  obtain ⟨hlt, hs0⟩ := own_len eca hat1 (Cond.before_iff.mp (hsets _ (List.mem_of_getElem? (i := 4) rfl)))
  have hsz : cl.slots.size = 256 := by
    have q6 := congrArg Int32.toInt hs0
    rw [len_toInt hlt] at q6
    have e3 : (256 : Int32).toInt = 256 := by decide
    rw [e3] at q6
    omega
  have hca : own_cache s ca := by
    refine ⟨Sta.start eca (Or.inl (hsets _ (List.mem_of_getElem? (i := 1) rfl))), cl, hArr, hsz, fun j hj => ?_⟩
    have q1 := own_all (Cond.before_iff.mp (hsets _ (List.mem_of_getElem? (i := 5) rfl))) eca hat1 j.toNatClampNeg (Nat.lt_of_not_le fun k => hj (Or.inr k))
    obtain ⟨q2, -⟩ := and_e q1
    obtain ⟨r, er⟩ := exa_v q2
    exact ⟨r, (elem_in er (show (Term.static "java/lang/Long$LongCache" "cache" "[Ljava/lang/Long;").eval _ s none [j.toNatClampNeg] s = some (.ref ca) from eca) (idx_at fun k => hj (Or.inl k)) hArr.1).2, exa_at er q2⟩
  obtain ⟨n, o, h1, h2, h3, _, L, rfl, ⟨rfl, N⟩, hq⟩ := rm_law l s _ hw tables_1 l1 c1 l2 c2 md ca s.heap s.heap.size (Nat.le_refl _) (Old.start s) hca p e ha hc hk s m _ below hf ((Spec.applies_iff_loose hf).mp happ).1 ⟨rfl, State.Warmed39.refl s, rfl⟩ trivial
  refine ⟨n, _, h1, h2, h3, hpost _ _ _ _ _ _ ⟨Cond.after_iff.mpr rfl, Cond.after_iff.mpr (eq_i res_at (Term.int_eval (1)) rfl), trivial⟩ ⟨hq.1, hq.2.1, (hq.2.2.sift fun y hy => Or.inr (N y hy)).mono (by decide) (by decide)⟩⟩
theorem main_1_1 : Claimed_1_1 := comes_1 fun _ _ _ _ _ _ h hF => ⟨h.1, hF⟩
theorem main_1_2 : Claimed_1_2 := comes_1 fun _ _ _ _ _ _ h hF => ⟨h.2.1, hF⟩
end Jvm.Pilot.@@N@@
namespace Jvm.Pilot.@@N@@
open Jvm Jvm.ClassFile Sem Op Lib Jvm.Free Jvm.Stand Jvm.Pilot.@@N@@.Jvm.D
/-! MADE BY PROGRAM (witnessworld.py) out of the Statement's table words and the real class files: 17 classes; the members and pool entries that the words name. The judged class is class 1, her method 2. -/
namespace start1
open Jvm.ClassFile
def u (s : String) : CpInfo := .utf8 (stringToUtf16 s)
/-- a pool by its gaps: so many unusable entries, then the entry; so many at the end -/
def gap : Nat → List CpInfo → List CpInfo
  | 0, r => r
  | n + 1, r => .unusable :: gap n r
def poolList (es : List (Nat × CpInfo)) (last : Nat) : List CpInfo := es.foldr (fun e r => gap e.1 (e.2 :: r)) (gap last [])
def pool (es : List (Nat × CpInfo)) (last : Nat) : Array CpInfo := ⟨poolList es last⟩
def fileOf (pool : Array CpInfo) (this : Nat) (attrs : Array Attribute := #[]) (ms : Array MethodInfo := #[]) (fl : Nat := 33) (sup : Nat := 0) (ifs : Array Nat := #[]) (fds : Array FieldInfo := #[]) : ClassFile where
  minorVersion := 0
  majorVersion := 65
  constantPool := pool
  accessFlags := fl
  thisClass := this
  superClass := sup
  interfaces := ifs
  fields := fds
  methods := ms
  attributes := attrs
def plain (name : String) (sup : Option ClassId) : Class where
  name := name
  kind := .ordinary
  loader := none
  accessFlags := 33
  super := sup
  interfaces := #[]
  cf := none
  fields := #[]
  methods := #[]
  instanceTypes := #[]
  staticTypes := #[]
  resolved := #[]
  callSites := []
  init := .initialized
  statics := none
  mirror := none

def pool0 : Array CpInfo := pool [(5, u "<init>"), (0, u "()V"), (1, .class_ 10), (1, u "java/lang/Object")] 113

def k0c0 : Code := { maxStack := 0, maxLocals := 1, code := object_method_1_code, exceptionTable := #[], attributes := #[] }
def k0m0 : Method := { name := "<init>", desc := "()V", sig := { parameters := [], returnType := none }, accessFlags := 1, code := some k0c0 }
/-- java/lang/Object -/
def k0 : Class := { plain "java/lang/Object" none with
  accessFlags := 33
  interfaces := #[]
  cf := some (fileOf pool0 8 #[] #[{ accessFlags := 1, nameIndex := 5, descriptorIndex := 6, attributes := #[] }] 33 0 #[] #[])
  fields := #[]
  methods := #[k0m0]
  instanceTypes := #[]
  staticTypes := #[]
  resolved := Array.replicate 124 none
  statics := none }

def pool1 : Array CpInfo := pool [(2, .class_ 4), (1, u "java/lang/Object"), (0, u "<init>"), (0, u "()V"), (0, .class_ 8), (0, u "java/lang/Long"), (0, .long 9223372036854775807), (1, .methodref 12 13), (0, .class_ 14), (0, .nameAndType 15 16), (0, u "java/lang/Math"), (0, u "max"), (0, u "(JJ)J"), (0, .methodref 18 19), (0, .class_ 20), (0, .nameAndType 21 22), (0, u "com/example/heapwright/heapwright/logic/smtlib/SourcePositionEqualsPinLaw"), (0, u "pos"), (0, u "(J)J"), (0, .class_ 24), (0, u "com/example/heapwright/heapwright/logic/smtlib/SourcePosition"), (0, .methodref 23 26), (0, .nameAndType 5 27), (0, u "(JJ)V"), (0, .methodref 7 29), (0, .nameAndType 30 31), (0, u "valueOf"), (0, u "(J)Ljava/lang/Long;"), (0, .methodref 23 33), (0, .nameAndType 34 35), (0, u "equals"), (0, u "(Ljava/lang/Object;)Z"), (2, u "law"), (0, u "(JJJJI)Z")] 3

def k1m0 : Method := { name := "<init>", desc := "()V", sig := { parameters := [], returnType := none }, accessFlags := 1, code := none }
def k1c1 : Code := { maxStack := 6, maxLocals := 2, code := method_2_code, exceptionTable := #[], attributes := #[] }
def k1m1 : Method := { name := "pos", desc := "(J)J", sig := { parameters := [.long], returnType := some .long }, accessFlags := 10, code := some k1c1 }
def k1c2 : Code := { maxStack := 6, maxLocals := 21, code := code, exceptionTable := #[], attributes := #[] }
def k1m2 : Method := { name := "law", desc := "(JJJJI)Z", sig := { parameters := [.long, .long, .long, .long, .int], returnType := some .boolean }, accessFlags := 9, code := some k1c2 }
/-- com/example/heapwright/heapwright/logic/smtlib/SourcePositionEqualsPinLaw -/
def k1 : Class := { plain "com/example/heapwright/heapwright/logic/smtlib/SourcePositionEqualsPinLaw" (some 0) with
  accessFlags := 49
  interfaces := #[]
  cf := some (fileOf pool1 18 #[] #[{ accessFlags := 1, nameIndex := 5, descriptorIndex := 6, attributes := #[] }, { accessFlags := 10, nameIndex := 21, descriptorIndex := 22, attributes := #[] }, { accessFlags := 9, nameIndex := 38, descriptorIndex := 39, attributes := #[] }] 49 2 #[] #[])
  fields := #[]
  methods := #[k1m0, k1m1, k1m2]
  instanceTypes := #[]
  staticTypes := #[]
  resolved := Array.replicate 43 none
  statics := none }

def pool2 : Array CpInfo := pool [(1, .class_ 2), (0, u "java/lang/Math"), (1, .class_ 6), (1, u "java/lang/Object"), (0, u "<init>"), (0, u "()V"), (89, .class_ 100), (1, u "java/lang/Math$RandomNumberGeneratorHolder"), (20, u "(JJ)J"), (50, u "negativeZeroFloatBits"), (0, u "J"), (2, u "negativeZeroDoubleBits"), (21, u "max"), (46, u "$assertionsDisabled"), (0, u "Z"), (91, u "twoToTheDoubleScaleDown"), (0, u "D"), (4, u "twoToTheDoubleScaleUp"), (9, u "E"), (3, u "PI"), (2, u "TAU"), (2, u "DEGREES_TO_RADIANS"), (0, u "RADIANS_TO_DEGREES")] 94

def k2m0 : Method := { name := "<init>", desc := "()V", sig := { parameters := [], returnType := none }, accessFlags := 2, code := none }
def k2c1 : Code := { maxStack := 4, maxLocals := 4, code := jdk_29_method_66_code, exceptionTable := #[], attributes := #[] }
def k2m1 : Method := { name := "max", desc := "(JJ)J", sig := { parameters := [.long, .long], returnType := some .long }, accessFlags := 9, code := some k2c1 }
/-- java/lang/Math -/
def k2 : Class := { plain "java/lang/Math" (some 0) with
  accessFlags := 49
  interfaces := #[]
  cf := some (fileOf pool2 1 #[.nestMembers #[98]] #[{ accessFlags := 2, nameIndex := 7, descriptorIndex := 8, attributes := #[] }, { accessFlags := 9, nameIndex := 198, descriptorIndex := 121, attributes := #[] }] 49 4 #[] #[{ accessFlags := 25, nameIndex := 354, descriptorIndex := 339, attributes := #[] }, { accessFlags := 25, nameIndex := 358, descriptorIndex := 339, attributes := #[] }, { accessFlags := 25, nameIndex := 361, descriptorIndex := 339, attributes := #[] }, { accessFlags := 26, nameIndex := 364, descriptorIndex := 339, attributes := #[] }, { accessFlags := 26, nameIndex := 365, descriptorIndex := 339, attributes := #[] }, { accessFlags := 26, nameIndex := 172, descriptorIndex := 173, attributes := #[] }, { accessFlags := 26, nameIndex := 176, descriptorIndex := 173, attributes := #[] }, { accessFlags := 8, nameIndex := 344, descriptorIndex := 339, attributes := #[] }, { accessFlags := 8, nameIndex := 338, descriptorIndex := 339, attributes := #[] }, { accessFlags := 4120, nameIndex := 245, descriptorIndex := 246, attributes := #[] }])
  fields := #[{ name := "E", type := .double, accessFlags := 25, slot := 0, constantValue := 0 }, { name := "PI", type := .double, accessFlags := 25, slot := 1, constantValue := 0 }, { name := "TAU", type := .double, accessFlags := 25, slot := 2, constantValue := 0 }, { name := "DEGREES_TO_RADIANS", type := .double, accessFlags := 26, slot := 3, constantValue := 0 }, { name := "RADIANS_TO_DEGREES", type := .double, accessFlags := 26, slot := 4, constantValue := 0 }, { name := "negativeZeroFloatBits", type := .long, accessFlags := 26, slot := 5, constantValue := 0 }, { name := "negativeZeroDoubleBits", type := .long, accessFlags := 26, slot := 6, constantValue := 0 }, { name := "twoToTheDoubleScaleUp", type := .double, accessFlags := 8, slot := 7, constantValue := 0 }, { name := "twoToTheDoubleScaleDown", type := .double, accessFlags := 8, slot := 8, constantValue := 0 }, { name := "$assertionsDisabled", type := .boolean, accessFlags := 4120, slot := 9, constantValue := 0 }]
  methods := #[k2m0, k2m1]
  instanceTypes := #[]
  staticTypes := #[.double, .double, .double, .double, .double, .long, .long, .double, .double, .boolean]
  resolved := Array.replicate 460 none
  statics := none }

def pool3 : Array CpInfo := pool [(1, .class_ 2), (0, u "java/io/Serializable"), (0, .class_ 4), (0, u "java/lang/Object")] 2

/-- java/io/Serializable -/
def k3 : Class := { plain "java/io/Serializable" (some 0) with
  accessFlags := 1537
  interfaces := #[]
  cf := some (fileOf pool3 1 #[] #[] 1537 3 #[] #[])
  fields := #[]
  methods := #[]
  instanceTypes := #[]
  staticTypes := #[]
  resolved := Array.replicate 7 none
  statics := none }

def pool4 : Array CpInfo := pool [(1, .methodref 2 3), (0, .class_ 4), (0, .nameAndType 5 6), (0, u "java/lang/Object"), (0, u "<init>"), (0, u "()V"), (19, .fieldref 27 28), (0, .class_ 29), (0, .nameAndType 30 31), (0, u "com/example/heapwright/heapwright/logic/smtlib/SourcePosition"), (0, u "line"), (0, u "J"), (0, .fieldref 27 33), (0, .nameAndType 34 31), (0, u "column"), (8, .class_ 44), (0, u "java/io/Serializable"), (0, u "serialVersionUID"), (3, u "(JJ)V"), (6, u "equals"), (0, u "(Ljava/lang/Object;)Z")] 20

def k4c0 : Code := { maxStack := 8, maxLocals := 5, code := prog_184_method_1_code, exceptionTable := #[], attributes := #[] }
def k4m0 : Method := { name := "<init>", desc := "(JJ)V", sig := { parameters := [.long, .long], returnType := none }, accessFlags := 1, code := some k4c0 }
def k4c1 : Code := { maxStack := 4, maxLocals := 3, code := prog_184_method_4_code, exceptionTable := #[], attributes := #[] }
def k4m1 : Method := { name := "equals", desc := "(Ljava/lang/Object;)Z", sig := { parameters := [(.object "java/lang/Object")], returnType := some .boolean }, accessFlags := 1, code := some k4c1 }
/-- com/example/heapwright/heapwright/logic/smtlib/SourcePosition -/
def k4 : Class := { plain "com/example/heapwright/heapwright/logic/smtlib/SourcePosition" (some 0) with
  accessFlags := 49
  interfaces := #[3]
  cf := some (fileOf pool4 27 #[] #[{ accessFlags := 1, nameIndex := 5, descriptorIndex := 49, attributes := #[] }, { accessFlags := 1, nameIndex := 56, descriptorIndex := 57, attributes := #[] }] 49 2 #[43] #[{ accessFlags := 26, nameIndex := 45, descriptorIndex := 31, attributes := #[] }, { accessFlags := 18, nameIndex := 30, descriptorIndex := 31, attributes := #[] }, { accessFlags := 18, nameIndex := 34, descriptorIndex := 31, attributes := #[] }])
  fields := #[{ name := "serialVersionUID", type := .long, accessFlags := 26, slot := 0, constantValue := 0 }, { name := "line", type := .long, accessFlags := 18, slot := 0, constantValue := 0 }, { name := "column", type := .long, accessFlags := 18, slot := 1, constantValue := 0 }]
  methods := #[k4m0, k4m1]
  instanceTypes := #[.long, .long]
  staticTypes := #[.long]
  resolved := Array.replicate 78 none
  statics := none }

def pool5 : Array CpInfo := pool [(1, .methodref 2 3), (0, .class_ 4), (0, .nameAndType 5 6), (0, u "java/lang/Object"), (0, u "<init>"), (0, u "()V"), (1, .class_ 10), (1, u "java/lang/Number"), (2, .class_ 14), (0, u "java/io/Serializable"), (0, u "serialVersionUID"), (0, u "J")] 20

def k5c0 : Code := { maxStack := 1, maxLocals := 1, code := jdk_18_method_1_code, exceptionTable := #[], attributes := #[] }
def k5m0 : Method := { name := "<init>", desc := "()V", sig := { parameters := [], returnType := none }, accessFlags := 1, code := some k5c0 }
/-- java/lang/Number -/
def k5 : Class := { plain "java/lang/Number" (some 0) with
  accessFlags := 1057
  interfaces := #[3]
  cf := some (fileOf pool5 8 #[] #[{ accessFlags := 1, nameIndex := 5, descriptorIndex := 6, attributes := #[] }] 1057 2 #[13] #[{ accessFlags := 26, nameIndex := 15, descriptorIndex := 16, attributes := #[] }])
  fields := #[{ name := "serialVersionUID", type := .long, accessFlags := 26, slot := 0, constantValue := 0 }]
  methods := #[k5m0]
  instanceTypes := #[]
  staticTypes := #[.long]
  resolved := Array.replicate 37 none
  statics := none }

def pool6 : Array CpInfo := pool [(1, .class_ 2), (0, u "java/lang/Comparable"), (0, .class_ 4), (0, u "java/lang/Object")] 7

/-- java/lang/Comparable -/
def k6 : Class := { plain "java/lang/Comparable" (some 0) with
  accessFlags := 1537
  interfaces := #[]
  cf := some (fileOf pool6 1 #[] #[] 1537 3 #[] #[])
  fields := #[]
  methods := #[]
  instanceTypes := #[]
  staticTypes := #[]
  resolved := Array.replicate 12 none
  statics := none }

def pool7 : Array CpInfo := pool [(1, .class_ 2), (0, u "java/lang/constant/Constable"), (0, .class_ 4), (0, u "java/lang/Object")] 6

/-- java/lang/constant/Constable -/
def k7 : Class := { plain "java/lang/constant/Constable" (some 0) with
  accessFlags := 1537
  interfaces := #[]
  cf := some (fileOf pool7 1 #[] #[] 1537 3 #[] #[])
  fields := #[]
  methods := #[]
  instanceTypes := #[]
  staticTypes := #[]
  resolved := Array.replicate 11 none
  statics := none }

def pool8 : Array CpInfo := pool [(1, .class_ 2), (0, u "java/lang/constant/ConstantDesc"), (0, .class_ 4), (0, u "java/lang/Object")] 32

/-- java/lang/constant/ConstantDesc -/
def k8 : Class := { plain "java/lang/constant/ConstantDesc" (some 0) with
  accessFlags := 1537
  interfaces := #[]
  cf := some (fileOf pool8 1 #[] #[] 1537 3 #[] #[])
  fields := #[]
  methods := #[]
  instanceTypes := #[]
  staticTypes := #[]
  resolved := Array.replicate 37 none
  statics := none }

def pool9 : Array CpInfo := pool [(1, .class_ 2), (0, u "java/lang/Long"), (55, .nameAndType 59 60), (0, u "<init>"), (0, u "()V"), (24, u "valueOf"), (143, u "(J)Ljava/lang/Long;"), (0, .long 18446744073709551488), (1, .long 127), (1, .fieldref 235 236), (0, .class_ 237), (0, .nameAndType 238 239), (0, u "java/lang/Long$LongCache"), (0, u "cache"), (0, u "[Ljava/lang/Long;"), (0, .methodref 1 241), (0, .nameAndType 59 242), (0, u "(J)V"), (27, .methodref 271 58), (0, .class_ 272), (0, u "java/lang/Number"), (0, .fieldref 1 274), (0, .nameAndType 275 276), (0, u "value"), (0, u "J"), (84, u "TYPE"), (0, u "Ljava/lang/Class;"), (0, .class_ 364), (0, u "java/lang/Comparable"), (0, .class_ 366), (0, u "java/lang/constant/Constable"), (0, .class_ 368), (0, u "java/lang/constant/ConstantDesc"), (0, u "MIN_VALUE"), (1, u "MAX_VALUE"), (4, u "SIZE"), (0, u "I"), (1, u "BYTES"), (1, u "serialVersionUID")] 142

def k9c0 : Code := { maxStack := 4, maxLocals := 3, code := jdk_35_method_24_code, exceptionTable := #[], attributes := #[] }
def k9m0 : Method := { name := "valueOf", desc := "(J)Ljava/lang/Long;", sig := { parameters := [.long], returnType := some (.object "java/lang/Long") }, accessFlags := 9, code := some k9c0 }
def k9c1 : Code := { maxStack := 3, maxLocals := 3, code := jdk_35_method_26_code, exceptionTable := #[], attributes := #[] }
def k9m1 : Method := { name := "<init>", desc := "(J)V", sig := { parameters := [.long], returnType := none }, accessFlags := 1, code := some k9c1 }
/-- java/lang/Long -/
def k9 : Class := { plain "java/lang/Long" (some 5) with
  accessFlags := 49
  interfaces := #[6, 7, 8]
  cf := some (fileOf pool9 1 #[.nestMembers #[235]] #[{ accessFlags := 9, nameIndex := 85, descriptorIndex := 229, attributes := #[] }, { accessFlags := 1, nameIndex := 59, descriptorIndex := 242, attributes := #[] }] 49 271 #[363, 365, 367] #[{ accessFlags := 25, nameIndex := 369, descriptorIndex := 276, attributes := #[] }, { accessFlags := 25, nameIndex := 371, descriptorIndex := 276, attributes := #[] }, { accessFlags := 25, nameIndex := 361, descriptorIndex := 362, attributes := #[] }, { accessFlags := 18, nameIndex := 275, descriptorIndex := 276, attributes := #[] }, { accessFlags := 25, nameIndex := 376, descriptorIndex := 377, attributes := #[] }, { accessFlags := 25, nameIndex := 379, descriptorIndex := 377, attributes := #[] }, { accessFlags := 26, nameIndex := 381, descriptorIndex := 276, attributes := #[] }])
  fields := #[{ name := "MIN_VALUE", type := .long, accessFlags := 25, slot := 0, constantValue := 0 }, { name := "MAX_VALUE", type := .long, accessFlags := 25, slot := 1, constantValue := 0 }, { name := "TYPE", type := (.object "java/lang/Class"), accessFlags := 25, slot := 2, constantValue := 0 }, { name := "value", type := .long, accessFlags := 18, slot := 0, constantValue := 0 }, { name := "SIZE", type := .int, accessFlags := 25, slot := 3, constantValue := 0 }, { name := "BYTES", type := .int, accessFlags := 25, slot := 4, constantValue := 0 }, { name := "serialVersionUID", type := .long, accessFlags := 26, slot := 5, constantValue := 0 }]
  methods := #[k9m0, k9m1]
  instanceTypes := #[.long]
  staticTypes := #[.long, .long, (.object "java/lang/Class"), .int, .int, .long]
  resolved := Array.replicate 524 none
  statics := none }

def pool10 : Array CpInfo := pool [(2, .class_ 4), (1, u "java/lang/Object"), (0, u "<init>"), (0, u "()V"), (0, .class_ 8), (0, u "java/lang/Long"), (7, .class_ 18), (1, u "java/lang/Long$LongCache"), (0, u "$assertionsDisabled"), (0, u "Z"), (8, u "archivedCache"), (0, u "[Ljava/lang/Long;"), (7, u "cache")] 24

def k10m0 : Method := { name := "<init>", desc := "()V", sig := { parameters := [], returnType := none }, accessFlags := 2, code := none }
/-- java/lang/Long$LongCache -/
def k10 : Class := { plain "java/lang/Long$LongCache" (some 0) with
  accessFlags := 48
  interfaces := #[]
  cf := some (fileOf pool10 16 #[.nestHost 7] #[{ accessFlags := 2, nameIndex := 5, descriptorIndex := 6, attributes := #[] }] 48 2 #[] #[{ accessFlags := 24, nameIndex := 38, descriptorIndex := 30, attributes := #[] }, { accessFlags := 8, nameIndex := 29, descriptorIndex := 30, attributes := #[] }, { accessFlags := 4120, nameIndex := 19, descriptorIndex := 20, attributes := #[] }])
  fields := #[{ name := "cache", type := (.array (.object "java/lang/Long")), accessFlags := 24, slot := 0, constantValue := 0 }, { name := "archivedCache", type := (.array (.object "java/lang/Long")), accessFlags := 8, slot := 1, constantValue := 0 }, { name := "$assertionsDisabled", type := .boolean, accessFlags := 4120, slot := 2, constantValue := 0 }]
  methods := #[k10m0]
  instanceTypes := #[]
  staticTypes := #[(.array (.object "java/lang/Long")), (.array (.object "java/lang/Long")), .boolean]
  resolved := Array.replicate 63 none
  statics := some 0 }

def pool11 : Array CpInfo := pool [(1, u "java/lang/Cloneable"), (0, .class_ 1), (0, u "java/lang/Object"), (0, .class_ 3)] 3

/-- java/lang/Cloneable -/
def k11 : Class := { plain "java/lang/Cloneable" (some 0) with
  accessFlags := 1537
  interfaces := #[]
  cf := some (fileOf pool11 2 #[] #[] 1537 4 #[] #[])
  fields := #[]
  methods := #[]
  instanceTypes := #[]
  staticTypes := #[]
  resolved := Array.replicate 8 none
  statics := none }

/-- the primitive byte -/
def k12 : Class := { plain "byte" none with kind := .primitive 'B', accessFlags := 0x411 }
/-- [B -/
def k13 : Class := { plain "[B" (some 0) with kind := .array 12 .byte, interfaces := #[11, 3], accessFlags := 1041 }

/-- the primitive int -/
def k14 : Class := { plain "int" none with kind := .primitive 'I', accessFlags := 0x411 }
/-- [I -/
def k15 : Class := { plain "[I" (some 0) with kind := .array 14 .int, interfaces := #[11, 3], accessFlags := 1041 }

/-- [Ljava/lang/Long; -/
def k16 : Class := { plain "[Ljava/lang/Long;" (some 0) with kind := .array 9 (.object "java/lang/Long"), interfaces := #[11, 3], accessFlags := 1041 }

def heap : Heap := #[{ cls := 10, slots := #[.ref 1, .null, .int 0], vm := .statics 10 },
  { cls := 16, slots := #[.ref 2, .ref 3, .ref 4, .ref 5, .ref 6, .ref 7, .ref 8, .ref 9, .ref 10, .ref 11, .ref 12, .ref 13, .ref 14, .ref 15, .ref 16, .ref 17, .ref 18, .ref 19, .ref 20, .ref 21, .ref 22, .ref 23, .ref 24, .ref 25, .ref 26, .ref 27, .ref 28, .ref 29, .ref 30, .ref 31, .ref 32, .ref 33, .ref 34, .ref 35, .ref 36, .ref 37, .ref 38, .ref 39, .ref 40, .ref 41, .ref 42, .ref 43, .ref 44, .ref 45, .ref 46, .ref 47, .ref 48, .ref 49, .ref 50, .ref 51, .ref 52, .ref 53, .ref 54, .ref 55, .ref 56, .ref 57, .ref 58, .ref 59, .ref 60, .ref 61, .ref 62, .ref 63, .ref 64, .ref 65, .ref 66, .ref 67, .ref 68, .ref 69, .ref 70, .ref 71, .ref 72, .ref 73, .ref 74, .ref 75, .ref 76, .ref 77, .ref 78, .ref 79, .ref 80, .ref 81, .ref 82, .ref 83, .ref 84, .ref 85, .ref 86, .ref 87, .ref 88, .ref 89, .ref 90, .ref 91, .ref 92, .ref 93, .ref 94, .ref 95, .ref 96, .ref 97, .ref 98, .ref 99, .ref 100, .ref 101, .ref 102, .ref 103, .ref 104, .ref 105, .ref 106, .ref 107, .ref 108, .ref 109, .ref 110, .ref 111, .ref 112, .ref 113, .ref 114, .ref 115, .ref 116, .ref 117, .ref 118, .ref 119, .ref 120, .ref 121, .ref 122, .ref 123, .ref 124, .ref 125, .ref 126, .ref 127, .ref 128, .ref 129, .ref 130, .ref 131, .ref 132, .ref 133, .ref 134, .ref 135, .ref 136, .ref 137, .ref 138, .ref 139, .ref 140, .ref 141, .ref 142, .ref 143, .ref 144, .ref 145, .ref 146, .ref 147, .ref 148, .ref 149, .ref 150, .ref 151, .ref 152, .ref 153, .ref 154, .ref 155, .ref 156, .ref 157, .ref 158, .ref 159, .ref 160, .ref 161, .ref 162, .ref 163, .ref 164, .ref 165, .ref 166, .ref 167, .ref 168, .ref 169, .ref 170, .ref 171, .ref 172, .ref 173, .ref 174, .ref 175, .ref 176, .ref 177, .ref 178, .ref 179, .ref 180, .ref 181, .ref 182, .ref 183, .ref 184, .ref 185, .ref 186, .ref 187, .ref 188, .ref 189, .ref 190, .ref 191, .ref 192, .ref 193, .ref 194, .ref 195, .ref 196, .ref 197, .ref 198, .ref 199, .ref 200, .ref 201, .ref 202, .ref 203, .ref 204, .ref 205, .ref 206, .ref 207, .ref 208, .ref 209, .ref 210, .ref 211, .ref 212, .ref 213, .ref 214, .ref 215, .ref 216, .ref 217, .ref 218, .ref 219, .ref 220, .ref 221, .ref 222, .ref 223, .ref 224, .ref 225, .ref 226, .ref 227, .ref 228, .ref 229, .ref 230, .ref 231, .ref 232, .ref 233, .ref 234, .ref 235, .ref 236, .ref 237, .ref 238, .ref 239, .ref 240, .ref 241, .ref 242, .ref 243, .ref 244, .ref 245, .ref 246, .ref 247, .ref 248, .ref 249, .ref 250, .ref 251, .ref 252, .ref 253, .ref 254, .ref 255, .ref 256, .ref 257], vm := .none },
  { cls := 9, slots := #[.long (-128)], vm := .none },
  { cls := 9, slots := #[.long (-127)], vm := .none },
  { cls := 9, slots := #[.long (-126)], vm := .none },
  { cls := 9, slots := #[.long (-125)], vm := .none },
  { cls := 9, slots := #[.long (-124)], vm := .none },
  { cls := 9, slots := #[.long (-123)], vm := .none },
  { cls := 9, slots := #[.long (-122)], vm := .none },
  { cls := 9, slots := #[.long (-121)], vm := .none },
  { cls := 9, slots := #[.long (-120)], vm := .none },
  { cls := 9, slots := #[.long (-119)], vm := .none },
  { cls := 9, slots := #[.long (-118)], vm := .none },
  { cls := 9, slots := #[.long (-117)], vm := .none },
  { cls := 9, slots := #[.long (-116)], vm := .none },
  { cls := 9, slots := #[.long (-115)], vm := .none },
  { cls := 9, slots := #[.long (-114)], vm := .none },
  { cls := 9, slots := #[.long (-113)], vm := .none },
  { cls := 9, slots := #[.long (-112)], vm := .none },
  { cls := 9, slots := #[.long (-111)], vm := .none },
  { cls := 9, slots := #[.long (-110)], vm := .none },
  { cls := 9, slots := #[.long (-109)], vm := .none },
  { cls := 9, slots := #[.long (-108)], vm := .none },
  { cls := 9, slots := #[.long (-107)], vm := .none },
  { cls := 9, slots := #[.long (-106)], vm := .none },
  { cls := 9, slots := #[.long (-105)], vm := .none },
  { cls := 9, slots := #[.long (-104)], vm := .none },
  { cls := 9, slots := #[.long (-103)], vm := .none },
  { cls := 9, slots := #[.long (-102)], vm := .none },
  { cls := 9, slots := #[.long (-101)], vm := .none },
  { cls := 9, slots := #[.long (-100)], vm := .none },
  { cls := 9, slots := #[.long (-99)], vm := .none },
  { cls := 9, slots := #[.long (-98)], vm := .none },
  { cls := 9, slots := #[.long (-97)], vm := .none },
  { cls := 9, slots := #[.long (-96)], vm := .none },
  { cls := 9, slots := #[.long (-95)], vm := .none },
  { cls := 9, slots := #[.long (-94)], vm := .none },
  { cls := 9, slots := #[.long (-93)], vm := .none },
  { cls := 9, slots := #[.long (-92)], vm := .none },
  { cls := 9, slots := #[.long (-91)], vm := .none },
  { cls := 9, slots := #[.long (-90)], vm := .none },
  { cls := 9, slots := #[.long (-89)], vm := .none },
  { cls := 9, slots := #[.long (-88)], vm := .none },
  { cls := 9, slots := #[.long (-87)], vm := .none },
  { cls := 9, slots := #[.long (-86)], vm := .none },
  { cls := 9, slots := #[.long (-85)], vm := .none },
  { cls := 9, slots := #[.long (-84)], vm := .none },
  { cls := 9, slots := #[.long (-83)], vm := .none },
  { cls := 9, slots := #[.long (-82)], vm := .none },
  { cls := 9, slots := #[.long (-81)], vm := .none },
  { cls := 9, slots := #[.long (-80)], vm := .none },
  { cls := 9, slots := #[.long (-79)], vm := .none },
  { cls := 9, slots := #[.long (-78)], vm := .none },
  { cls := 9, slots := #[.long (-77)], vm := .none },
  { cls := 9, slots := #[.long (-76)], vm := .none },
  { cls := 9, slots := #[.long (-75)], vm := .none },
  { cls := 9, slots := #[.long (-74)], vm := .none },
  { cls := 9, slots := #[.long (-73)], vm := .none },
  { cls := 9, slots := #[.long (-72)], vm := .none },
  { cls := 9, slots := #[.long (-71)], vm := .none },
  { cls := 9, slots := #[.long (-70)], vm := .none },
  { cls := 9, slots := #[.long (-69)], vm := .none },
  { cls := 9, slots := #[.long (-68)], vm := .none },
  { cls := 9, slots := #[.long (-67)], vm := .none },
  { cls := 9, slots := #[.long (-66)], vm := .none },
  { cls := 9, slots := #[.long (-65)], vm := .none },
  { cls := 9, slots := #[.long (-64)], vm := .none },
  { cls := 9, slots := #[.long (-63)], vm := .none },
  { cls := 9, slots := #[.long (-62)], vm := .none },
  { cls := 9, slots := #[.long (-61)], vm := .none },
  { cls := 9, slots := #[.long (-60)], vm := .none },
  { cls := 9, slots := #[.long (-59)], vm := .none },
  { cls := 9, slots := #[.long (-58)], vm := .none },
  { cls := 9, slots := #[.long (-57)], vm := .none },
  { cls := 9, slots := #[.long (-56)], vm := .none },
  { cls := 9, slots := #[.long (-55)], vm := .none },
  { cls := 9, slots := #[.long (-54)], vm := .none },
  { cls := 9, slots := #[.long (-53)], vm := .none },
  { cls := 9, slots := #[.long (-52)], vm := .none },
  { cls := 9, slots := #[.long (-51)], vm := .none },
  { cls := 9, slots := #[.long (-50)], vm := .none },
  { cls := 9, slots := #[.long (-49)], vm := .none },
  { cls := 9, slots := #[.long (-48)], vm := .none },
  { cls := 9, slots := #[.long (-47)], vm := .none },
  { cls := 9, slots := #[.long (-46)], vm := .none },
  { cls := 9, slots := #[.long (-45)], vm := .none },
  { cls := 9, slots := #[.long (-44)], vm := .none },
  { cls := 9, slots := #[.long (-43)], vm := .none },
  { cls := 9, slots := #[.long (-42)], vm := .none },
  { cls := 9, slots := #[.long (-41)], vm := .none },
  { cls := 9, slots := #[.long (-40)], vm := .none },
  { cls := 9, slots := #[.long (-39)], vm := .none },
  { cls := 9, slots := #[.long (-38)], vm := .none },
  { cls := 9, slots := #[.long (-37)], vm := .none },
  { cls := 9, slots := #[.long (-36)], vm := .none },
  { cls := 9, slots := #[.long (-35)], vm := .none },
  { cls := 9, slots := #[.long (-34)], vm := .none },
  { cls := 9, slots := #[.long (-33)], vm := .none },
  { cls := 9, slots := #[.long (-32)], vm := .none },
  { cls := 9, slots := #[.long (-31)], vm := .none },
  { cls := 9, slots := #[.long (-30)], vm := .none },
  { cls := 9, slots := #[.long (-29)], vm := .none },
  { cls := 9, slots := #[.long (-28)], vm := .none },
  { cls := 9, slots := #[.long (-27)], vm := .none },
  { cls := 9, slots := #[.long (-26)], vm := .none },
  { cls := 9, slots := #[.long (-25)], vm := .none },
  { cls := 9, slots := #[.long (-24)], vm := .none },
  { cls := 9, slots := #[.long (-23)], vm := .none },
  { cls := 9, slots := #[.long (-22)], vm := .none },
  { cls := 9, slots := #[.long (-21)], vm := .none },
  { cls := 9, slots := #[.long (-20)], vm := .none },
  { cls := 9, slots := #[.long (-19)], vm := .none },
  { cls := 9, slots := #[.long (-18)], vm := .none },
  { cls := 9, slots := #[.long (-17)], vm := .none },
  { cls := 9, slots := #[.long (-16)], vm := .none },
  { cls := 9, slots := #[.long (-15)], vm := .none },
  { cls := 9, slots := #[.long (-14)], vm := .none },
  { cls := 9, slots := #[.long (-13)], vm := .none },
  { cls := 9, slots := #[.long (-12)], vm := .none },
  { cls := 9, slots := #[.long (-11)], vm := .none },
  { cls := 9, slots := #[.long (-10)], vm := .none },
  { cls := 9, slots := #[.long (-9)], vm := .none },
  { cls := 9, slots := #[.long (-8)], vm := .none },
  { cls := 9, slots := #[.long (-7)], vm := .none },
  { cls := 9, slots := #[.long (-6)], vm := .none },
  { cls := 9, slots := #[.long (-5)], vm := .none },
  { cls := 9, slots := #[.long (-4)], vm := .none },
  { cls := 9, slots := #[.long (-3)], vm := .none },
  { cls := 9, slots := #[.long (-2)], vm := .none },
  { cls := 9, slots := #[.long (-1)], vm := .none },
  { cls := 9, slots := #[.long (0)], vm := .none },
  { cls := 9, slots := #[.long (1)], vm := .none },
  { cls := 9, slots := #[.long (2)], vm := .none },
  { cls := 9, slots := #[.long (3)], vm := .none },
  { cls := 9, slots := #[.long (4)], vm := .none },
  { cls := 9, slots := #[.long (5)], vm := .none },
  { cls := 9, slots := #[.long (6)], vm := .none },
  { cls := 9, slots := #[.long (7)], vm := .none },
  { cls := 9, slots := #[.long (8)], vm := .none },
  { cls := 9, slots := #[.long (9)], vm := .none },
  { cls := 9, slots := #[.long (10)], vm := .none },
  { cls := 9, slots := #[.long (11)], vm := .none },
  { cls := 9, slots := #[.long (12)], vm := .none },
  { cls := 9, slots := #[.long (13)], vm := .none },
  { cls := 9, slots := #[.long (14)], vm := .none },
  { cls := 9, slots := #[.long (15)], vm := .none },
  { cls := 9, slots := #[.long (16)], vm := .none },
  { cls := 9, slots := #[.long (17)], vm := .none },
  { cls := 9, slots := #[.long (18)], vm := .none },
  { cls := 9, slots := #[.long (19)], vm := .none },
  { cls := 9, slots := #[.long (20)], vm := .none },
  { cls := 9, slots := #[.long (21)], vm := .none },
  { cls := 9, slots := #[.long (22)], vm := .none },
  { cls := 9, slots := #[.long (23)], vm := .none },
  { cls := 9, slots := #[.long (24)], vm := .none },
  { cls := 9, slots := #[.long (25)], vm := .none },
  { cls := 9, slots := #[.long (26)], vm := .none },
  { cls := 9, slots := #[.long (27)], vm := .none },
  { cls := 9, slots := #[.long (28)], vm := .none },
  { cls := 9, slots := #[.long (29)], vm := .none },
  { cls := 9, slots := #[.long (30)], vm := .none },
  { cls := 9, slots := #[.long (31)], vm := .none },
  { cls := 9, slots := #[.long (32)], vm := .none },
  { cls := 9, slots := #[.long (33)], vm := .none },
  { cls := 9, slots := #[.long (34)], vm := .none },
  { cls := 9, slots := #[.long (35)], vm := .none },
  { cls := 9, slots := #[.long (36)], vm := .none },
  { cls := 9, slots := #[.long (37)], vm := .none },
  { cls := 9, slots := #[.long (38)], vm := .none },
  { cls := 9, slots := #[.long (39)], vm := .none },
  { cls := 9, slots := #[.long (40)], vm := .none },
  { cls := 9, slots := #[.long (41)], vm := .none },
  { cls := 9, slots := #[.long (42)], vm := .none },
  { cls := 9, slots := #[.long (43)], vm := .none },
  { cls := 9, slots := #[.long (44)], vm := .none },
  { cls := 9, slots := #[.long (45)], vm := .none },
  { cls := 9, slots := #[.long (46)], vm := .none },
  { cls := 9, slots := #[.long (47)], vm := .none },
  { cls := 9, slots := #[.long (48)], vm := .none },
  { cls := 9, slots := #[.long (49)], vm := .none },
  { cls := 9, slots := #[.long (50)], vm := .none },
  { cls := 9, slots := #[.long (51)], vm := .none },
  { cls := 9, slots := #[.long (52)], vm := .none },
  { cls := 9, slots := #[.long (53)], vm := .none },
  { cls := 9, slots := #[.long (54)], vm := .none },
  { cls := 9, slots := #[.long (55)], vm := .none },
  { cls := 9, slots := #[.long (56)], vm := .none },
  { cls := 9, slots := #[.long (57)], vm := .none },
  { cls := 9, slots := #[.long (58)], vm := .none },
  { cls := 9, slots := #[.long (59)], vm := .none },
  { cls := 9, slots := #[.long (60)], vm := .none },
  { cls := 9, slots := #[.long (61)], vm := .none },
  { cls := 9, slots := #[.long (62)], vm := .none },
  { cls := 9, slots := #[.long (63)], vm := .none },
  { cls := 9, slots := #[.long (64)], vm := .none },
  { cls := 9, slots := #[.long (65)], vm := .none },
  { cls := 9, slots := #[.long (66)], vm := .none },
  { cls := 9, slots := #[.long (67)], vm := .none },
  { cls := 9, slots := #[.long (68)], vm := .none },
  { cls := 9, slots := #[.long (69)], vm := .none },
  { cls := 9, slots := #[.long (70)], vm := .none },
  { cls := 9, slots := #[.long (71)], vm := .none },
  { cls := 9, slots := #[.long (72)], vm := .none },
  { cls := 9, slots := #[.long (73)], vm := .none },
  { cls := 9, slots := #[.long (74)], vm := .none },
  { cls := 9, slots := #[.long (75)], vm := .none },
  { cls := 9, slots := #[.long (76)], vm := .none },
  { cls := 9, slots := #[.long (77)], vm := .none },
  { cls := 9, slots := #[.long (78)], vm := .none },
  { cls := 9, slots := #[.long (79)], vm := .none },
  { cls := 9, slots := #[.long (80)], vm := .none },
  { cls := 9, slots := #[.long (81)], vm := .none },
  { cls := 9, slots := #[.long (82)], vm := .none },
  { cls := 9, slots := #[.long (83)], vm := .none },
  { cls := 9, slots := #[.long (84)], vm := .none },
  { cls := 9, slots := #[.long (85)], vm := .none },
  { cls := 9, slots := #[.long (86)], vm := .none },
  { cls := 9, slots := #[.long (87)], vm := .none },
  { cls := 9, slots := #[.long (88)], vm := .none },
  { cls := 9, slots := #[.long (89)], vm := .none },
  { cls := 9, slots := #[.long (90)], vm := .none },
  { cls := 9, slots := #[.long (91)], vm := .none },
  { cls := 9, slots := #[.long (92)], vm := .none },
  { cls := 9, slots := #[.long (93)], vm := .none },
  { cls := 9, slots := #[.long (94)], vm := .none },
  { cls := 9, slots := #[.long (95)], vm := .none },
  { cls := 9, slots := #[.long (96)], vm := .none },
  { cls := 9, slots := #[.long (97)], vm := .none },
  { cls := 9, slots := #[.long (98)], vm := .none },
  { cls := 9, slots := #[.long (99)], vm := .none },
  { cls := 9, slots := #[.long (100)], vm := .none },
  { cls := 9, slots := #[.long (101)], vm := .none },
  { cls := 9, slots := #[.long (102)], vm := .none },
  { cls := 9, slots := #[.long (103)], vm := .none },
  { cls := 9, slots := #[.long (104)], vm := .none },
  { cls := 9, slots := #[.long (105)], vm := .none },
  { cls := 9, slots := #[.long (106)], vm := .none },
  { cls := 9, slots := #[.long (107)], vm := .none },
  { cls := 9, slots := #[.long (108)], vm := .none },
  { cls := 9, slots := #[.long (109)], vm := .none },
  { cls := 9, slots := #[.long (110)], vm := .none },
  { cls := 9, slots := #[.long (111)], vm := .none },
  { cls := 9, slots := #[.long (112)], vm := .none },
  { cls := 9, slots := #[.long (113)], vm := .none },
  { cls := 9, slots := #[.long (114)], vm := .none },
  { cls := 9, slots := #[.long (115)], vm := .none },
  { cls := 9, slots := #[.long (116)], vm := .none },
  { cls := 9, slots := #[.long (117)], vm := .none },
  { cls := 9, slots := #[.long (118)], vm := .none },
  { cls := 9, slots := #[.long (119)], vm := .none },
  { cls := 9, slots := #[.long (120)], vm := .none },
  { cls := 9, slots := #[.long (121)], vm := .none },
  { cls := 9, slots := #[.long (122)], vm := .none },
  { cls := 9, slots := #[.long (123)], vm := .none },
  { cls := 9, slots := #[.long (124)], vm := .none },
  { cls := 9, slots := #[.long (125)], vm := .none },
  { cls := 9, slots := #[.long (126)], vm := .none },
  { cls := 9, slots := #[.long (127)], vm := .none }]
def classes : Array Class := #[k0, k1, k2, k3, k4, k5, k6, k7, k8, k9, k10, k11, k12, k13, k14, k15, k16]
def interned : List (Array UInt16 × Addr) := []
def slotsUsed : Nat := 515
def theMethod : MethodId := ⟨1, 2⟩
def args0 : Array Value := #[.long 5, .long 6, .long 7, .long 8, .int 3]
def aboutOver (below : List Frame) : State where
  vm := { classes := classes, interned := interned.toArray }
  heap := heap
  slotsUsed := slotsUsed
  threads := #[{ frames := .invoking theMethod args0 :: below }]
def below0 : List Frame := [.native { method := ⟨0, 0⟩, args := #[] }]
def about1 : State := aboutOver below0
def p0 : Program := .bare "" "" ""
def e0 : Env := launch0.env 0 0 0
theorem w_frames : about1.frames = Frame.invoking theMethod args0 :: below0 := rfl
set_option maxRecDepth 65536 in
theorem w_args : argsFit about1.vm theMethod args0 = true := by decide +kernel
set_option maxRecDepth 65536 in
theorem w_heap : heapFits about1 = true := by decide +kernel
set_option maxRecDepth 65536 in
theorem w_runnable : about1.curStatus? = some .runnable := by decide +kernel
set_option maxRecDepth 65536 in
theorem w_alone : about1.alone = true := by decide +kernel
set_option maxRecDepth 65536 in
theorem w_named : about1.methodNamed? x = some theMethod := by decide +kernel
set_option maxRecDepth 65536 in
theorem w_hears : about1.hears theMethod below0 = true := by decide +kernel
set_option maxRecDepth 65536 in
theorem w_ripe : about1.ripe theMethod args0 below0 = true := by decide +kernel
theorem w_running : about1.status = .running := rfl
set_option maxRecDepth 65536 in
theorem w_room : about1.hasRoom e0.platform room_1 = true :=
  launch0.hasRoom_least _ room_1 (by decide +kernel) (by decide +kernel) (by decide +kernel) (by decide +kernel) (by decide +kernel) (by decide +kernel)
theorem allAtoms_all (ts : List Jvm.Cond) (a : Array Jvm.Value) (st : Jvm.State) : (allAtoms ts).before a st = ts.all (fun c => c.before a st) := by
  induction ts with
  | nil => rfl
  | cons c t ih =>
    show (Jvm.Cond.and c (allAtoms t)).before a st = _
    rw [Jvm.Cond.before_and, ih, List.all_cons]
def words1 : List Jvm.Cond := Jvm.Cond.code x code maxLocals ret :: tables_1
/-- a 'code' word, met by the world's own term for the bytes: nothing is compared byte by byte -/
theorem code_word {y : MethodName} {bytes : ByteArray} {mx : Nat} {rt : Option FieldType} {a : Array Value} {s : State} {m : MethodId} {meth : Method} {c : Code} (h1 : s.methodNamed? y = some m) (h2 : s.vm.method? m = some meth) (h3 : meth.code = some c) (h4 : c.code = bytes)
    (h5 : (c.maxLocals == mx && c.exceptionTable.isEmpty && decide (c.maxStack ≤ mostOperands) && decide (meth.sig.returnType = rt) && !meth.locks && decide (parseMethodDescriptor y.desc = some meth.sig)) = true) : (Jvm.Cond.code y bytes mx rt).before a s = true := by
  simp only [Bool.and_eq_true, beq_iff_eq, Bool.not_eq_true', decide_eq_true_eq] at h5
  obtain ⟨⟨⟨⟨⟨g1, g2⟩, g3⟩, g4⟩, g5⟩, g6⟩ := h5
  simp [Cond.before, Cond.holds, Cond.value, h1, h2, h3, h4, g1, g2, g3, g4, g5, g6]
def isCode : Jvm.Cond → Bool
  | .code _ _ _ _ => true
  | _ => false
theorem all_split {L : List Jvm.Cond} {P : Jvm.Cond → Bool} (h1 : L.all (fun c => isCode c || P c) = true) (h2 : ∀ c ∈ L.filter isCode, P c = true) : L.all P = true := by
  refine List.all_eq_true.mpr fun c hc => ?_
  have h := List.all_eq_true.mp h1 c hc
  rcases Bool.eq_false_or_eq_true (isCode c) with hi | hi
  · exact h2 c (List.mem_filter.mpr ⟨hc, hi⟩)
  · simpa [hi] using h
set_option maxRecDepth 65536 in
theorem w_c0 : (Jvm.Cond.code x code maxLocals ret).before args0 about1 = true := code_word (m := ⟨1, 2⟩) (meth := k1m2) (c := k1c2) (by decide +kernel) rfl rfl rfl (by decide +kernel)
set_option maxRecDepth 65536 in
theorem w_c1 : (Jvm.Cond.code ({ cls := "com/example/heapwright/heapwright/logic/smtlib/SourcePositionEqualsPinLaw", name := "pos", desc := "(J)J" } : Jvm.MethodName) method_2_code (2 : Nat) (Option.some Jvm.ClassFile.FieldType.long)).before args0 about1 = true := code_word (m := ⟨1, 1⟩) (meth := k1m1) (c := k1c1) (by decide +kernel) rfl rfl rfl (by decide +kernel)
set_option maxRecDepth 65536 in
theorem w_c2 : (Jvm.Cond.code ({ cls := "java/lang/Math", name := "max", desc := "(JJ)J" } : Jvm.MethodName) jdk_29_method_66_code (4 : Nat) (Option.some Jvm.ClassFile.FieldType.long)).before args0 about1 = true := code_word (m := ⟨2, 1⟩) (meth := k2m1) (c := k2c1) (by decide +kernel) rfl rfl rfl (by decide +kernel)
set_option maxRecDepth 65536 in
theorem w_c3 : (Jvm.Cond.code ({ cls := "com/example/heapwright/heapwright/logic/smtlib/SourcePosition", name := "<init>", desc := "(JJ)V" } : Jvm.MethodName) prog_184_method_1_code (5 : Nat) (Option.none : Option Jvm.ClassFile.FieldType)).before args0 about1 = true := code_word (m := ⟨4, 0⟩) (meth := k4m0) (c := k4c0) (by decide +kernel) rfl rfl rfl (by decide +kernel)
set_option maxRecDepth 65536 in
theorem w_c4 : (Jvm.Cond.code ({ cls := "java/lang/Object", name := "<init>", desc := "()V" } : Jvm.MethodName) object_method_1_code (1 : Nat) (Option.none : Option Jvm.ClassFile.FieldType)).before args0 about1 = true := code_word (m := ⟨0, 0⟩) (meth := k0m0) (c := k0c0) (by decide +kernel) rfl rfl rfl (by decide +kernel)
set_option maxRecDepth 65536 in
theorem w_c5 : (Jvm.Cond.code ({ cls := "java/lang/Long", name := "valueOf", desc := "(J)Ljava/lang/Long;" } : Jvm.MethodName) jdk_35_method_24_code (3 : Nat) (Option.some (Jvm.ClassFile.FieldType.object "java/lang/Long"))).before args0 about1 = true := code_word (m := ⟨9, 0⟩) (meth := k9m0) (c := k9c0) (by decide +kernel) rfl rfl rfl (by decide +kernel)
set_option maxRecDepth 65536 in
theorem w_c6 : (Jvm.Cond.code ({ cls := "com/example/heapwright/heapwright/logic/smtlib/SourcePosition", name := "equals", desc := "(Ljava/lang/Object;)Z" } : Jvm.MethodName) prog_184_method_4_code (3 : Nat) (Option.some Jvm.ClassFile.FieldType.boolean)).before args0 about1 = true := code_word (m := ⟨4, 1⟩) (meth := k4m1) (c := k4c1) (by decide +kernel) rfl rfl rfl (by decide +kernel)
set_option maxRecDepth 65536 in
theorem w_c7 : (Jvm.Cond.code ({ cls := "java/lang/Long", name := "<init>", desc := "(J)V" } : Jvm.MethodName) jdk_35_method_26_code (3 : Nat) (Option.none : Option Jvm.ClassFile.FieldType)).before args0 about1 = true := code_word (m := ⟨9, 1⟩) (meth := k9m1) (c := k9c1) (by decide +kernel) rfl rfl rfl (by decide +kernel)
set_option maxRecDepth 65536 in
theorem w_c8 : (Jvm.Cond.code ({ cls := "java/lang/Number", name := "<init>", desc := "()V" } : Jvm.MethodName) jdk_18_method_1_code (1 : Nat) (Option.none : Option Jvm.ClassFile.FieldType)).before args0 about1 = true := code_word (m := ⟨5, 0⟩) (meth := k5m0) (c := k5c0) (by decide +kernel) rfl rfl rfl (by decide +kernel)
def codes1 : List Jvm.Cond := [Jvm.Cond.code x code maxLocals ret, Jvm.Cond.code ({ cls := "com/example/heapwright/heapwright/logic/smtlib/SourcePositionEqualsPinLaw", name := "pos", desc := "(J)J" } : Jvm.MethodName) method_2_code (2 : Nat) (Option.some Jvm.ClassFile.FieldType.long), Jvm.Cond.code ({ cls := "java/lang/Math", name := "max", desc := "(JJ)J" } : Jvm.MethodName) jdk_29_method_66_code (4 : Nat) (Option.some Jvm.ClassFile.FieldType.long), Jvm.Cond.code ({ cls := "com/example/heapwright/heapwright/logic/smtlib/SourcePosition", name := "<init>", desc := "(JJ)V" } : Jvm.MethodName) prog_184_method_1_code (5 : Nat) (Option.none : Option Jvm.ClassFile.FieldType), Jvm.Cond.code ({ cls := "java/lang/Object", name := "<init>", desc := "()V" } : Jvm.MethodName) object_method_1_code (1 : Nat) (Option.none : Option Jvm.ClassFile.FieldType), Jvm.Cond.code ({ cls := "java/lang/Long", name := "valueOf", desc := "(J)Ljava/lang/Long;" } : Jvm.MethodName) jdk_35_method_24_code (3 : Nat) (Option.some (Jvm.ClassFile.FieldType.object "java/lang/Long")), Jvm.Cond.code ({ cls := "com/example/heapwright/heapwright/logic/smtlib/SourcePosition", name := "equals", desc := "(Ljava/lang/Object;)Z" } : Jvm.MethodName) prog_184_method_4_code (3 : Nat) (Option.some Jvm.ClassFile.FieldType.boolean), Jvm.Cond.code ({ cls := "java/lang/Long", name := "<init>", desc := "(J)V" } : Jvm.MethodName) jdk_35_method_26_code (3 : Nat) (Option.none : Option Jvm.ClassFile.FieldType), Jvm.Cond.code ({ cls := "java/lang/Number", name := "<init>", desc := "()V" } : Jvm.MethodName) jdk_18_method_1_code (1 : Nat) (Option.none : Option Jvm.ClassFile.FieldType)]
set_option maxRecDepth 65536 in
theorem codes_eq : words1.filter isCode = codes1 := rfl
theorem w_codes : ∀ c ∈ words1.filter isCode, c.before args0 about1 = true := by
  rw [codes_eq]
  intro c hc
  simp only [codes1, List.mem_cons, List.not_mem_nil, or_false] at hc
  rcases hc with rfl | rfl | rfl | rfl | rfl | rfl | rfl | rfl | rfl
  · exact w_c0
  · exact w_c1
  · exact w_c2
  · exact w_c3
  · exact w_c4
  · exact w_c5
  · exact w_c6
  · exact w_c7
  · exact w_c8
set_option maxRecDepth 65536 in
theorem w_t1 : (words1.take 24).all (fun c => isCode c || c.before args0 about1) = true := by decide +kernel
set_option maxRecDepth 65536 in
theorem w_t2 : ((words1.drop 24).take 24).all (fun c => isCode c || c.before args0 about1) = true := by decide +kernel
set_option maxRecDepth 65536 in
theorem w_t3 : ((words1.drop 24).drop 24).all (fun c => isCode c || c.before args0 about1) = true := by decide +kernel
theorem w_tables : (allAtoms (Jvm.Cond.code x code maxLocals ret :: tables_1)).before args0 about1 = true := by
  rw [allAtoms_all]
  show words1.all (fun c => c.before args0 about1) = true
  refine all_split ?_ w_codes
  rw [← List.take_append_drop 24 words1, List.all_append, w_t1, ← List.take_append_drop 24 (words1.drop 24), List.all_append, w_t2, w_t3]
  rfl
set_option maxRecDepth 65536 in
theorem w_rest : rest_1_c.before args0 about1 = true := by decide +kernel
set_option maxRecDepth 65536 in
theorem w_case : (Jvm.Cond.and given_1 narrow_1).before args0 about1 = true := by decide +kernel
theorem w_applies : (headSpec (Jvm.Cond.code x code maxLocals ret :: tables_1) room_1).applies x e0.platform about1 = true :=
  (Spec.applies_iff w_frames).mpr ⟨w_running, w_runnable, w_alone, w_named, w_hears, w_ripe, w_room, w_tables⟩
theorem atStart : AtStart classFile x code maxLocals ret World_1 tables_1 room_1 Calls_1 rest_1 Pre_1 launch0 p0 e0 about1 theMethod args0 below0 :=
  ⟨lists_1, trivial, launch0.admits_env _ _ _, launch0.least_env, fairChoices_fair.cas, fairChoices_fair.clock, w_frames, w_args, w_heap, w_applies, trivial, w_rest, w_case⟩
end start1
theorem witness_1 : WitnessClaimed_1 := ⟨start1.p0, start1.e0, start1.about1, start1.theMethod, start1.args0, start1.below0, start1.atStart⟩
end Jvm.Pilot.@@N@@
