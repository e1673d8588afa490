import JvmDerived
import JvmDerived.Pilot.@@N@@Statement
import JvmDerived.Pilot.@@N@@Code
set_option linter.unusedVariables false
set_option linter.unusedSimpArgs false
namespace Jvm.Pilot.@@N@@
open Jvm Jvm.ClassFile Sem Op Lib Jvm.Free Jvm.Stand Jvm.LawKit Jvm.RoadKit Bundle Jvm.Pilot.@@N@@.Jvm.D
def own_G (p : Program) (e : Env) (below : List Frame) (F : Outcome → State → Prop) (U : State) : Prop :=
  ∃ s₂ o, Steps p.tables e below U s₂ ∧ s₂.status = .running ∧ Ended s₂ below o ∧ F o s₂
section Own
variable {p : Program} {l : Launch} {e : Env} {R : Room} {s : State} {m : MethodId} {args : Array Value} {below : List Frame} {meth : Method} {c : Code} {T : State} {locs : List Loc} {cells slots : Nat} {F F0 : Outcome → State → Prop} {U V : State}
theorem own_st (st : ∀ t, Steps p.tables e below V t → Steps p.tables e below U t) (h : own_G p e below F V) : own_G p e below F U := by
  obtain ⟨s₂, o, h1, h2⟩ := h
  exact ⟨s₂, o, st _ h1, h2⟩
theorem own_tr (st : Steps p.tables e below U V) (h : own_G p e below F V) : own_G p e below F U := by
  obtain ⟨s₂, o, h1, h2⟩ := h
  exact ⟨s₂, o, st.trans h1, h2⟩
theorem own_start (h : ∀ F : Outcome → State → Prop, (∀ o U, F0 o U → F o U) → own_G p e below F U) : ∃ s₂ o, Steps p.tables e below U s₂ ∧ s₂.status = .running ∧ Ended s₂ below o ∧ F0 o s₂ := h F0 fun _ _ q => q
theorem own_retV (X : Stand p l e R s m args below meth c T locs cells slots) (hx : p.tables.exec = Jvm.exec) (hlk : meth.locks = false) (hret : meth.sig.returnType = none) {pc : Nat} {Ls : Array Slot} (hd : decode c.code pc = .ok (.return_, 1)) {K N : Nat} (hc : cells ≤ K) (hs : slots ≤ N)
    (hF : ∀ U : State, U.heap = T.heap → FrameEnd s (.returned none) U locs K N → F (.returned none) U) : own_G p e below F (T.setTop (mkF m pc Ls [])) := by
  obtain ⟨fs, hr, hrun, hended, hW, hsame⟩ := X.leave (v := none) (fun _ => rfl) hlk
  exact ⟨_, _, X.returnOut hx hret hd hr, hrun, hended, hF _ rfl ⟨⟨_, rfl⟩, hW, hsame.mono hc hs⟩⟩
theorem own_retO (X : Stand p l e R s m args below meth c T locs cells slots) (hx : p.tables.exec = Jvm.exec) (hlk : meth.locks = false) {t : FieldType} (hret : meth.sig.returnType = some t) {w : Value} {i : Instr} (hn : narrow t w = w)
    (hi : (i = .ireturn ∧ (t = .int ∨ t = .boolean ∨ t = .byte ∨ t = .char ∨ t = .short) ∧ ∃ z, w = .int z) ∨ (i = .lreturn ∧ t = .long ∧ ∃ z, w = .long z) ∨ (i = .dreturn ∧ t = .double ∧ ∃ z, w = .double z) ∨ (i = .freturn ∧ t = .float ∧ ∃ z, w = .float z) ∨ (i = .areturn ∧ t.isReference = true ∧ w.isRef = true))
    {pc : Nat} {Ls : Array Slot} {rest : List Value} (hd : decode c.code pc = .ok (i, 1)) {K N : Nat} (hc : cells ≤ K) (hs : slots ≤ N)
    (hF : ∀ U : State, U.heap = T.heap → FrameEnd s (.returned (some w)) U locs K N → F (.returned (some w)) U) : own_G p e below F (T.setTop (mkF m pc Ls (w :: rest))) := by
  obtain ⟨fs, hr, hrun, hended, hW, hsame⟩ := X.leave (v := some w) (fun h => by rw [hret] at h; cases h) hlk
  exact ⟨_, _, retOut X hx hret hn hi hd hr, hrun, hended, hF _ rfl ⟨⟨_, rfl⟩, hW, hsame.mono hc hs⟩⟩
theorem own_retA (X : Stand p l e R s m args below meth c T locs cells slots) (hx : p.tables.exec = Jvm.exec) (hlk : meth.locks = false) {t : FieldType} (hret : meth.sig.returnType = some t) {w : Value} (ht : t.isReference = true) (hw : w.isRef = true)
    {pc : Nat} {Ls : Array Slot} {rest : List Value} (hd : decode c.code pc = .ok (.areturn, 1)) {K N : Nat} (hc : cells ≤ K) (hs : slots ≤ N)
    (hF : ∀ U : State, U.heap = T.heap → FrameEnd s (.returned (some w)) U locs K N → F (.returned (some w)) U) : own_G p e below F (T.setTop (mkF m pc Ls (w :: rest))) :=
  own_retO X hx hlk hret (by cases t <;> first | rfl | (simp [FieldType.isReference] at ht)) (Or.inr (Or.inr (Or.inr (Or.inr ⟨rfl, ht, hw⟩)))) hd hc hs hF
theorem own_retL (X : Stand p l e R s m args below meth c T locs cells slots) (hx : p.tables.exec = Jvm.exec) (hlk : meth.locks = false) (hret : meth.sig.returnType = some .long) {z : Int64}
    {pc : Nat} {Ls : Array Slot} {rest : List Value} (hd : decode c.code pc = .ok (.lreturn, 1)) {K N : Nat} (hc : cells ≤ K) (hs : slots ≤ N)
    (hF : ∀ U : State, U.heap = T.heap → FrameEnd s (.returned (some (.long z))) U locs K N → F (.returned (some (.long z))) U) : own_G p e below F (T.setTop (mkF m pc Ls (.long z :: rest))) :=
  own_retO X hx hlk hret rfl (Or.inr (Or.inl ⟨rfl, rfl, z, rfl⟩)) hd hc hs hF
theorem own_retI (X : Stand p l e R s m args below meth c T locs cells slots) (hx : p.tables.exec = Jvm.exec) (hlk : meth.locks = false) (hret : meth.sig.returnType = some .int) {z : Int32}
    {pc : Nat} {Ls : Array Slot} {rest : List Value} (hd : decode c.code pc = .ok (.ireturn, 1)) {K N : Nat} (hc : cells ≤ K) (hs : slots ≤ N)
    (hF : ∀ U : State, U.heap = T.heap → FrameEnd s (.returned (some (.int z))) U locs K N → F (.returned (some (.int z))) U) : own_G p e below F (T.setTop (mkF m pc Ls (.int z :: rest))) :=
  own_retO X hx hlk hret rfl (Or.inl ⟨rfl, Or.inl rfl, z, rfl⟩) hd hc hs hF
theorem own_retN (X : Stand p l e R s m args below meth c T locs cells slots) (hx : p.tables.exec = Jvm.exec) (hlk : meth.locks = false) {t : FieldType} (hret : meth.sig.returnType = some t) {z : Int32} (hn : narrow t (.int z) = .int z) (ht : t = .int ∨ t = .boolean ∨ t = .byte ∨ t = .char ∨ t = .short)
    {pc : Nat} {Ls : Array Slot} {rest : List Value} (hd : decode c.code pc = .ok (.ireturn, 1)) {K N : Nat} (hc : cells ≤ K) (hs : slots ≤ N)
    (hF : ∀ U : State, U.heap = T.heap → FrameEnd s (.returned (some (.int z))) U locs K N → F (.returned (some (.int z))) U) : own_G p e below F (T.setTop (mkF m pc Ls (.int z :: rest))) :=
  own_retO X hx hlk hret hn (Or.inl ⟨rfl, ht, z, rfl⟩) hd hc hs hF
theorem own_since (s : State) (n : Nat) : s.Since s.vm n := ⟨State.Warmed39.refl s, fun j q hj hq => absurd (Array.getElem?_eq_some_iff.mp hq).1 (Nat.not_lt.mpr hj)⟩
theorem own_retVW {vm₁ : Vm} (X : Stand p l e R (s.setVm vm₁) m args below meth c T locs cells slots) {n : Nat} (hS : s.Since vm₁ n) (hk : n ≤ T.heap.size) (hx : p.tables.exec = Jvm.exec) (hlk : meth.locks = false) (hret : meth.sig.returnType = none) {pc : Nat} {Ls : Array Slot} (hd : decode c.code pc = .ok (.return_, 1)) {K N : Nat} (hc : cells ≤ K) (hs : slots ≤ N)
    (hF : ∀ U : State, U.heap = T.heap → U.vm = T.vm → ReturnedEndW s (.returned none) U locs K N → F (.returned none) U) : own_G p e below F (T.setTop (mkF m pc Ls [])) := by
  obtain ⟨fs, hr, hrun, hended, h1, h2, h3, h4⟩ := X.leaveW hS hk (v := none) (fun _ => rfl) hlk
  exact ⟨_, _, X.returnOut hx hret hd hr, hrun, hended, hF _ rfl rfl ⟨h1, h2, h3, h4.mono hc hs⟩⟩
theorem own_retOW {vm₁ : Vm} (X : Stand p l e R (s.setVm vm₁) m args below meth c T locs cells slots) {n : Nat} (hS : s.Since vm₁ n) (hk : n ≤ T.heap.size) (hx : p.tables.exec = Jvm.exec) (hlk : meth.locks = false) {t : FieldType} (hret : meth.sig.returnType = some t) {w : Value} {i : Instr} (hn : narrow t w = w)
    (hi : (i = .ireturn ∧ (t = .int ∨ t = .boolean ∨ t = .byte ∨ t = .char ∨ t = .short) ∧ ∃ z, w = .int z) ∨ (i = .lreturn ∧ t = .long ∧ ∃ z, w = .long z) ∨ (i = .dreturn ∧ t = .double ∧ ∃ z, w = .double z) ∨ (i = .freturn ∧ t = .float ∧ ∃ z, w = .float z) ∨ (i = .areturn ∧ t.isReference = true ∧ w.isRef = true))
    {pc : Nat} {Ls : Array Slot} {rest : List Value} (hd : decode c.code pc = .ok (i, 1)) {K N : Nat} (hc : cells ≤ K) (hs : slots ≤ N)
    (hF : ∀ U : State, U.heap = T.heap → U.vm = T.vm → ReturnedEndW s (.returned (some w)) U locs K N → F (.returned (some w)) U) : own_G p e below F (T.setTop (mkF m pc Ls (w :: rest))) := by
  obtain ⟨fs, hr, hrun, hended, h1, h2, h3, h4⟩ := X.leaveW hS hk (v := some w) (fun h => by rw [hret] at h; cases h) hlk
  exact ⟨_, _, retOut X hx hret hn hi hd hr, hrun, hended, hF _ rfl rfl ⟨h1, h2, h3, h4.mono hc hs⟩⟩
theorem own_retAW {vm₁ : Vm} (X : Stand p l e R (s.setVm vm₁) m args below meth c T locs cells slots) {n : Nat} (hS : s.Since vm₁ n) (hk : n ≤ T.heap.size) (hx : p.tables.exec = Jvm.exec) (hlk : meth.locks = false) {t : FieldType} (hret : meth.sig.returnType = some t) {w : Value} (ht : t.isReference = true) (hw : w.isRef = true)
    {pc : Nat} {Ls : Array Slot} {rest : List Value} (hd : decode c.code pc = .ok (.areturn, 1)) {K N : Nat} (hc : cells ≤ K) (hs : slots ≤ N)
    (hF : ∀ U : State, U.heap = T.heap → U.vm = T.vm → ReturnedEndW s (.returned (some w)) U locs K N → F (.returned (some w)) U) : own_G p e below F (T.setTop (mkF m pc Ls (w :: rest))) :=
  own_retOW X hS hk hx hlk hret (by cases t <;> first | rfl | (simp [FieldType.isReference] at ht)) (Or.inr (Or.inr (Or.inr (Or.inr ⟨rfl, ht, hw⟩)))) hd hc hs hF
theorem own_retNW {vm₁ : Vm} (X : Stand p l e R (s.setVm vm₁) m args below meth c T locs cells slots) {n : Nat} (hS : s.Since vm₁ n) (hk : n ≤ T.heap.size) (hx : p.tables.exec = Jvm.exec) (hlk : meth.locks = false) {t : FieldType} (hret : meth.sig.returnType = some t) {z : Int32} (hn : narrow t (.int z) = .int z) (ht : t = .int ∨ t = .boolean ∨ t = .byte ∨ t = .char ∨ t = .short)
    {pc : Nat} {Ls : Array Slot} {rest : List Value} (hd : decode c.code pc = .ok (.ireturn, 1)) {K N : Nat} (hc : cells ≤ K) (hs : slots ≤ N)
    (hF : ∀ U : State, U.heap = T.heap → U.vm = T.vm → ReturnedEndW s (.returned (some (.int z))) U locs K N → F (.returned (some (.int z))) U) : own_G p e below F (T.setTop (mkF m pc Ls (.int z :: rest))) :=
  own_retOW X hS hk hx hlk hret hn (Or.inl ⟨rfl, ht, z, rfl⟩) hd hc hs hF
theorem own_cat {v : Value} (h : v.isRef = true) : v.category = 1 := by rcases ref_cases h with rfl | ⟨a, rfl⟩ <;> rfl
theorem own_fitR {v : Value} {C : String} (h : v.isRef = true) : fits (.object C) v = true := by rcases ref_cases h with rfl | ⟨a, rfl⟩ <;> rfl
theorem own_narR {v : Value} {C : String} : narrow (.object C) v = v := by cases v <;> rfl
theorem own_fitA {v : Value} {t : FieldType} (h : v.isRef = true) : fits (.array t) v = true := by rcases ref_cases h with rfl | ⟨a, rfl⟩ <;> rfl
theorem own_narA {v : Value} {t : FieldType} : narrow (.array t) v = v := by cases v <;> rfl
theorem own_narB {b : Int32} (h : b = 0 ∨ b = 1) : narrow .boolean (.int b) = .int b := by rcases h with rfl | rfl <;> rfl
theorem own_fitB {b : Int32} (h : b = 0 ∨ b = 1) : fits .boolean (.int b) = true := by rcases h with rfl | rfl <;> rfl
theorem own_arvSafe {Z : State} {EL : List (String × Nat)} {vm : Vm} {h : Heap} {x : Addr} {k : ClassId} {ty : FieldType} {n : Int32} {vs : List Value} {d : Value} (hal : Z.vm.Alike vm) (A : Arv Z h x k ty n vs d) (ht : ty ≠ .byte) : Safe Z EL vm h x := by
  obtain ⟨c, A, -⟩ := A
  exact Safe.arr hal A ht
end Own
theorem own_len {s : State} {args : Array Value} {t : Term} {x : Addr} {cl : Cell} {z : Int32} (ht : t.eval args s none [] s = some (.ref x)) (ha : s.arrayAt? x = some cl) (h : (Jvm.Cond.eq (.length t) (.int z)).value args s none s [] = some true) : cl.slots.size < 2 ^ 31 ∧ cl.slots.size.toInt32 = z := by
  obtain ⟨u, w, e1, e2, -, -⟩ := cmp_v (Or.inl h)
  obtain ⟨a', cl', q1, q2, q3⟩ := Term.length_spec e1
  cases ht.symm.trans q1
  cases ha.symm.trans q2
  subst q3
  refine ⟨?_, gotT (Cond.eq_ints e1 (Term.int_eval z)) h⟩
  by_cases hl : cl.slots.size < 2 ^ 31
  · exact hl
  · exfalso
    have e5 : (Term.length t).eval args s none [] s = none := by
      simp only [Term.eval, ht, ha, Option.bind_eq_bind, Option.bind_some, if_neg hl]
    rw [e5] at e1
    cases e1
theorem own_nars (x : Int32) : narrow .short (.int x.toInt16.toInt32) = .int x.toInt16.toInt32 := by simp [narrow]
def own_EP (Z : State) (fd rg : Addr) : Prop := Sta Z Z.heap "java/time/temporal/ChronoField" "EPOCH_DAY" "Ljava/time/temporal/ChronoField;" (.ref fd) ∧ Exa Z Z.heap fd "java/time/temporal/ChronoField" ∧ Fld Z Z.heap fd "java/time/temporal/ChronoField" "range" "Ljava/time/temporal/ValueRange;" (.ref rg) ∧ Exa Z Z.heap rg "java/time/temporal/ValueRange" ∧ Fld Z Z.heap rg "java/time/temporal/ValueRange" "minSmallest" "J" (.long (-365243219162 : Int64)) ∧ Fld Z Z.heap rg "java/time/temporal/ValueRange" "maxLargest" "J" (.long (365241780471 : Int64))
theorem d3_0 : decode jdk_2395_method_8_code 0 = .ok (.aload_n 0, 1) := by decide +kernel
theorem d3_1 : decode jdk_2395_method_8_code 1 = .ok (.getfield 124, 3) := by decide +kernel
theorem d3_4 : decode jdk_2395_method_8_code 4 = .ok (.areturn, 1) := by decide +kernel
theorem own_pn_java_time_temporal_ChronoField : plainName "java/time/temporal/ChronoField" = true := by first | (simp [plainName, overriddenIn]; done) | decide +kernel
theorem own_ef_range (m : MethodId) (x0 : Addr) : entryFrame m #[(.ref x0)] 1 = mkF m 0 #[.val (.ref x0)] [] := by first | (simp [entryFrame, mkF, argsToLocals, Value.category]; done) | rfl
def Q_range (Z : State) (oa : Addr) (rg : Addr) (h0 : Heap) (n0 : Nat) (v : Option Value) (h : Heap) (L : List Loc) : Prop := v = some (.ref rg) ∧ Fr n0 L ∧ h = h0
set_option maxRecDepth 65536 in
set_option maxHeartbeats 40000000 in
theorem rm_range (l : Launch) (Z : State) (a0 : Array Value) (hw : ∀ d ∈ tables_1, d.before a0 Z = true) (ws : List Jvm.Cond) (oa : Addr) (rg : Addr) (h0 : Heap) (n0 : Nat) (Z0 : n0 ≤ h0.size) (F_1 : Fld Z h0 oa "java/time/temporal/ChronoField" "range" "Ljava/time/temporal/ValueRange;" (.ref rg)) :
    MetFree l (⟨"java/time/temporal/ChronoField", "range", "()Ljava/time/temporal/ValueRange;"⟩ : MethodName) (head1 (Jvm.Cond.code (⟨"java/time/temporal/ChronoField", "range", "()Ljava/time/temporal/ValueRange;"⟩ : MethodName) jdk_2395_method_8_code 1 (some (.object "java/time/temporal/ValueRange")) :: ws) ({ frames := 0, cells := 0, slots := 0, locals := 0 } : Room)) (fun a U => a = #[(.ref oa)] ∧ Z.Warmed39 U.vm ∧ U.heap = h0) (fun _ _ _ _ _ => True) (fun _ U o U' => ∃ v L, o = .returned v ∧ Q_range Z oa rg h0 n0 v U'.heap L ∧ FrameEnd U o U' L ({ frames := 0, cells := 0, slots := 0, locals := 0 } : Room).cells ({ frames := 0, cells := 0, slots := 0, locals := 0 } : Room).slots) := by
  refine MetFree.of_bodySF (plainFor_of_name own_pn_java_time_temporal_ChronoField) hisR ?_
  intro p e s m args below meth c s₁ Bd hml0 hP hK
  obtain ⟨rfl, hZ, hh⟩ := hP
  have hx := Bd.exec
  have hby := Bd.bytes
  have hml : c.maxLocals = 1 := hml0
  have hown : s.vm.findClass "java/time/temporal/ChronoField" = some m.cls := findClass_of_methodNamed Bd.named
  have hnm := (name_of_methodNamed Bd.named Bd.method).1
  have X0 : Stand p l e ({ frames := 0, cells := 0, slots := 0, locals := 0 } : Room) s m #[(.ref oa)] below meth c s₁ [] 0 0 := Stand.of_body Bd
  have e0 : s₁.heap = h0 := by rw [← hh, Bd.state]; rfl
  have N0 := Fr.nil n0
  refine own_start (F0 := fun o U' => ∃ v L, o = .returned v ∧ Q_range Z oa rg h0 n0 v U'.heap L ∧ FrameEnd s o U' L ({ frames := 0, cells := 0, slots := 0, locals := 0 } : Room).cells ({ frames := 0, cells := 0, slots := 0, locals := 0 } : Room).slots) fun F hF => ?_
  rw [own_ef_range m oa]
  refine own_st (V := s₁.setTop (mkF m 1 #[.val (.ref oa)] [(.ref oa)])) (fun _ hk => XS.aloadN X0.here hx rfl (hb hby d3_0) rfl rfl hk) ?_
  obtain ⟨T1, X1, e1, st1⟩ := getF X0 hx hZ hown (host := "") (Or.inl (hw _ (List.mem_of_getElem? (i := 17) rfl))) Via.refl e0 F_1 (g := (mkF m 1 #[.val (.ref oa)] [(.ref oa)])) rfl rfl (hb hby d3_1)
  refine own_st (V := T1.setTop (mkF m 4 #[.val (.ref oa)] [(.ref rg)])) st1 ?_
  exact own_retA X1 hx Bd.notSynchronized Bd.returns rfl rfl (hb hby d3_4) (by decide) (by decide) (fun U hU hE => hF _ _ ⟨_, _, rfl, (by rw [hU, e1]; exact ⟨rfl, N0, rfl⟩), hE⟩)
theorem d6_0 : decode jdk_2423_method_6_code 0 = .ok (.aload_n 0, 1) := by decide +kernel
theorem d6_1 : decode jdk_2423_method_6_code 1 = .ok (.getfield 33, 3) := by decide +kernel
theorem d6_4 : decode jdk_2423_method_6_code 4 = .ok (.lreturn, 1) := by decide +kernel
theorem own_pn_java_time_temporal_ValueRange : plainName "java/time/temporal/ValueRange" = true := by first | (simp [plainName, overriddenIn]; done) | decide +kernel
theorem own_ef_getMin (m : MethodId) (x0 : Addr) : entryFrame m #[(.ref x0)] 1 = mkF m 0 #[.val (.ref x0)] [] := by first | (simp [entryFrame, mkF, argsToLocals, Value.category]; done) | rfl
def Q_getMin (Z : State) (oa : Addr) (q : Int64) (h0 : Heap) (n0 : Nat) (v : Option Value) (h : Heap) (L : List Loc) : Prop := v = some (.long q) ∧ Fr n0 L ∧ h = h0
set_option maxRecDepth 65536 in
set_option maxHeartbeats 40000000 in
theorem rm_getMin (l : Launch) (Z : State) (a0 : Array Value) (hw : ∀ d ∈ tables_1, d.before a0 Z = true) (ws : List Jvm.Cond) (oa : Addr) (q : Int64) (h0 : Heap) (n0 : Nat) (Z0 : n0 ≤ h0.size) (F_1 : Fld Z h0 oa "java/time/temporal/ValueRange" "minSmallest" "J" (.long q)) :
    MetFree l (⟨"java/time/temporal/ValueRange", "getMinimum", "()J"⟩ : MethodName) (head1 (Jvm.Cond.code (⟨"java/time/temporal/ValueRange", "getMinimum", "()J"⟩ : MethodName) jdk_2423_method_6_code 1 (some .long) :: ws) ({ frames := 0, cells := 0, slots := 0, locals := 0 } : Room)) (fun a U => a = #[(.ref oa)] ∧ Z.Warmed39 U.vm ∧ U.heap = h0) (fun _ _ _ _ _ => True) (fun _ U o U' => ∃ v L, o = .returned v ∧ Q_getMin Z oa q h0 n0 v U'.heap L ∧ FrameEnd U o U' L ({ frames := 0, cells := 0, slots := 0, locals := 0 } : Room).cells ({ frames := 0, cells := 0, slots := 0, locals := 0 } : Room).slots) := by
  refine MetFree.of_bodySF (plainFor_of_name own_pn_java_time_temporal_ValueRange) hisR ?_
  intro p e s m args below meth c s₁ Bd hml0 hP hK
  obtain ⟨rfl, hZ, hh⟩ := hP
  have hx := Bd.exec
  have hby := Bd.bytes
  have hml : c.maxLocals = 1 := hml0
  have hown : s.vm.findClass "java/time/temporal/ValueRange" = some m.cls := findClass_of_methodNamed Bd.named
  have hnm := (name_of_methodNamed Bd.named Bd.method).1
  have X0 : Stand p l e ({ frames := 0, cells := 0, slots := 0, locals := 0 } : Room) s m #[(.ref oa)] below meth c s₁ [] 0 0 := Stand.of_body Bd
  have e0 : s₁.heap = h0 := by rw [← hh, Bd.state]; rfl
  have N0 := Fr.nil n0
  refine own_start (F0 := fun o U' => ∃ v L, o = .returned v ∧ Q_getMin Z oa q h0 n0 v U'.heap L ∧ FrameEnd s o U' L ({ frames := 0, cells := 0, slots := 0, locals := 0 } : Room).cells ({ frames := 0, cells := 0, slots := 0, locals := 0 } : Room).slots) fun F hF => ?_
  rw [own_ef_getMin m oa]
  refine own_st (V := s₁.setTop (mkF m 1 #[.val (.ref oa)] [(.ref oa)])) (fun _ hk => XS.aloadN X0.here hx rfl (hb hby d6_0) rfl rfl hk) ?_
  obtain ⟨T1, X1, e1, st1⟩ := getF X0 hx hZ hown (host := "") (Or.inl (hw _ (List.mem_of_getElem? (i := 35) rfl))) Via.refl e0 F_1 (g := (mkF m 1 #[.val (.ref oa)] [(.ref oa)])) rfl rfl (hb hby d6_1)
  refine own_st (V := T1.setTop (mkF m 4 #[.val (.ref oa)] [(.long q)])) st1 ?_
  exact own_retL X1 hx Bd.notSynchronized Bd.returns (hb hby d6_4) (by decide) (by decide) (fun U hU hE => hF _ _ ⟨_, _, rfl, (by rw [hU, e1]; exact ⟨rfl, N0, rfl⟩), hE⟩)
theorem d7_0 : decode jdk_2423_method_9_code 0 = .ok (.aload_n 0, 1) := by decide +kernel
theorem d7_1 : decode jdk_2423_method_9_code 1 = .ok (.getfield 43, 3) := by decide +kernel
theorem d7_4 : decode jdk_2423_method_9_code 4 = .ok (.lreturn, 1) := by decide +kernel
theorem own_ef_getMax (m : MethodId) (x0 : Addr) : entryFrame m #[(.ref x0)] 1 = mkF m 0 #[.val (.ref x0)] [] := by first | (simp [entryFrame, mkF, argsToLocals, Value.category]; done) | rfl
def Q_getMax (Z : State) (oa : Addr) (q : Int64) (h0 : Heap) (n0 : Nat) (v : Option Value) (h : Heap) (L : List Loc) : Prop := v = some (.long q) ∧ Fr n0 L ∧ h = h0
set_option maxRecDepth 65536 in
set_option maxHeartbeats 40000000 in
theorem rm_getMax (l : Launch) (Z : State) (a0 : Array Value) (hw : ∀ d ∈ tables_1, d.before a0 Z = true) (ws : List Jvm.Cond) (oa : Addr) (q : Int64) (h0 : Heap) (n0 : Nat) (Z0 : n0 ≤ h0.size) (F_1 : Fld Z h0 oa "java/time/temporal/ValueRange" "maxLargest" "J" (.long q)) :
    MetFree l (⟨"java/time/temporal/ValueRange", "getMaximum", "()J"⟩ : MethodName) (head1 (Jvm.Cond.code (⟨"java/time/temporal/ValueRange", "getMaximum", "()J"⟩ : MethodName) jdk_2423_method_9_code 1 (some .long) :: ws) ({ frames := 0, cells := 0, slots := 0, locals := 0 } : Room)) (fun a U => a = #[(.ref oa)] ∧ Z.Warmed39 U.vm ∧ U.heap = h0) (fun _ _ _ _ _ => True) (fun _ U o U' => ∃ v L, o = .returned v ∧ Q_getMax Z oa q h0 n0 v U'.heap L ∧ FrameEnd U o U' L ({ frames := 0, cells := 0, slots := 0, locals := 0 } : Room).cells ({ frames := 0, cells := 0, slots := 0, locals := 0 } : Room).slots) := by
  refine MetFree.of_bodySF (plainFor_of_name own_pn_java_time_temporal_ValueRange) hisR ?_
  intro p e s m args below meth c s₁ Bd hml0 hP hK
  obtain ⟨rfl, hZ, hh⟩ := hP
  have hx := Bd.exec
  have hby := Bd.bytes
  have hml : c.maxLocals = 1 := hml0
  have hown : s.vm.findClass "java/time/temporal/ValueRange" = some m.cls := findClass_of_methodNamed Bd.named
  have hnm := (name_of_methodNamed Bd.named Bd.method).1
  have X0 : Stand p l e ({ frames := 0, cells := 0, slots := 0, locals := 0 } : Room) s m #[(.ref oa)] below meth c s₁ [] 0 0 := Stand.of_body Bd
  have e0 : s₁.heap = h0 := by rw [← hh, Bd.state]; rfl
  have N0 := Fr.nil n0
  refine own_start (F0 := fun o U' => ∃ v L, o = .returned v ∧ Q_getMax Z oa q h0 n0 v U'.heap L ∧ FrameEnd s o U' L ({ frames := 0, cells := 0, slots := 0, locals := 0 } : Room).cells ({ frames := 0, cells := 0, slots := 0, locals := 0 } : Room).slots) fun F hF => ?_
  rw [own_ef_getMax m oa]
  refine own_st (V := s₁.setTop (mkF m 1 #[.val (.ref oa)] [(.ref oa)])) (fun _ hk => XS.aloadN X0.here hx rfl (hb hby d7_0) rfl rfl hk) ?_
  obtain ⟨T1, X1, e1, st1⟩ := getF X0 hx hZ hown (host := "") (Or.inl (hw _ (List.mem_of_getElem? (i := 42) rfl))) Via.refl e0 F_1 (g := (mkF m 1 #[.val (.ref oa)] [(.ref oa)])) rfl rfl (hb hby d7_1)
  refine own_st (V := T1.setTop (mkF m 4 #[.val (.ref oa)] [(.long q)])) st1 ?_
  exact own_retL X1 hx Bd.notSynchronized Bd.returns (hb hby d7_4) (by decide) (by decide) (fun U hU hE => hF _ _ ⟨_, _, rfl, (by rw [hU, e1]; exact ⟨rfl, N0, rfl⟩), hE⟩)
theorem d5_0 : decode jdk_2423_method_11_code 0 = .ok (.lload_n 1, 1) := by decide +kernel
theorem d5_1 : decode jdk_2423_method_11_code 1 = .ok (.aload_n 0, 1) := by decide +kernel
theorem d5_2 : decode jdk_2423_method_11_code 2 = .ok (.invokevirtual 46, 3) := by decide +kernel
theorem own_pd0 : parseMethodDescriptor "()J" = some ⟨[], some .long⟩ := by decide +kernel
theorem d5_5 : decode jdk_2423_method_11_code 5 = .ok (.lcmp, 1) := by decide +kernel
theorem d5_6 : decode jdk_2423_method_11_code 6 = .ok (.ifCond .lt 16, 3) := by decide +kernel
theorem d5_9 : decode jdk_2423_method_11_code 9 = .ok (.lload_n 1, 1) := by decide +kernel
theorem d5_10 : decode jdk_2423_method_11_code 10 = .ok (.aload_n 0, 1) := by decide +kernel
theorem d5_11 : decode jdk_2423_method_11_code 11 = .ok (.invokevirtual 54, 3) := by decide +kernel
theorem d5_14 : decode jdk_2423_method_11_code 14 = .ok (.lcmp, 1) := by decide +kernel
theorem d5_15 : decode jdk_2423_method_11_code 15 = .ok (.ifCond .gt 7, 3) := by decide +kernel
theorem d5_18 : decode jdk_2423_method_11_code 18 = .ok (.iconst 1, 1) := by decide +kernel
theorem d5_19 : decode jdk_2423_method_11_code 19 = .ok (.goto 4, 3) := by decide +kernel
theorem d5_23 : decode jdk_2423_method_11_code 23 = .ok (.ireturn, 1) := by decide +kernel
theorem own_ef_isValid (m : MethodId) (x0 : Addr) (x1 : Int64) : entryFrame m #[(.ref x0), (.long x1)] 3 = mkF m 0 #[.val (.ref x0), .val (.long x1), .second] [] := by first | (simp [entryFrame, mkF, argsToLocals, Value.category]; done) | rfl
def Q_isValid (Z : State) (oa : Addr) (q mn mx : Int64) (h0 : Heap) (n0 : Nat) (v : Option Value) (h : Heap) (L : List Loc) : Prop := v = some (.int 1) ∧ Fr n0 L ∧ h = h0
set_option maxRecDepth 65536 in
set_option maxHeartbeats 40000000 in
theorem rm_isValid (l : Launch) (Z : State) (a0 : Array Value) (hw : ∀ d ∈ tables_1, d.before a0 Z = true) (ws : List Jvm.Cond) (oa : Addr) (q mn mx : Int64) (h0 : Heap) (n0 : Nat) (Z0 : n0 ≤ h0.size) (E_a : Exa Z h0 oa "java/time/temporal/ValueRange") (F_n : Fld Z h0 oa "java/time/temporal/ValueRange" "minSmallest" "J" (.long mn)) (F_x : Fld Z h0 oa "java/time/temporal/ValueRange" "maxLargest" "J" (.long mx)) (hlo : ¬ q < mn) (hhi : ¬ mx < q) :
    MetFree l (⟨"java/time/temporal/ValueRange", "isValidValue", "(J)Z"⟩ : MethodName) (head1 (Jvm.Cond.code (⟨"java/time/temporal/ValueRange", "isValidValue", "(J)Z"⟩ : MethodName) jdk_2423_method_11_code 3 (some .boolean) :: ws) ({ frames := 1, cells := 0, slots := 0, locals := 14 } : Room)) (fun a U => a = #[(.ref oa), (.long q)] ∧ Z.Warmed39 U.vm ∧ U.heap = h0) (fun _ _ _ _ _ => True) (fun _ U o U' => ∃ v L, o = .returned v ∧ Q_isValid Z oa q mn mx h0 n0 v U'.heap L ∧ FrameEnd U o U' L ({ frames := 1, cells := 0, slots := 0, locals := 14 } : Room).cells ({ frames := 1, cells := 0, slots := 0, locals := 14 } : Room).slots) := by
  refine MetFree.of_bodySF (plainFor_of_name own_pn_java_time_temporal_ValueRange) hisR ?_
  intro p e s m args below meth c s₁ Bd hml0 hP hK
  obtain ⟨rfl, hZ, hh⟩ := hP
  have hx := Bd.exec
  have hby := Bd.bytes
  have hml : c.maxLocals = 3 := hml0
  have hown : s.vm.findClass "java/time/temporal/ValueRange" = some m.cls := findClass_of_methodNamed Bd.named
  have hnm := (name_of_methodNamed Bd.named Bd.method).1
  have X0 : Stand p l e ({ frames := 1, cells := 0, slots := 0, locals := 14 } : Room) s m #[(.ref oa), (.long q)] below meth c s₁ [] 0 0 := Stand.of_body Bd
  have e0 : s₁.heap = h0 := by rw [← hh, Bd.state]; rfl
  have N0 := Fr.nil n0
  refine own_start (F0 := fun o U' => ∃ v L, o = .returned v ∧ Q_isValid Z oa q mn mx h0 n0 v U'.heap L ∧ FrameEnd s o U' L ({ frames := 1, cells := 0, slots := 0, locals := 14 } : Room).cells ({ frames := 1, cells := 0, slots := 0, locals := 14 } : Room).slots) fun F hF => ?_
  rw [own_ef_isValid m oa q]
  refine own_st (V := s₁.setTop (mkF m 1 #[.val (.ref oa), .val (.long q), .second] [(.long q)])) (fun _ hk => XS.lloadN X0.here hx rfl (hb hby d5_0) rfl  hk) ?_
  refine own_st (V := s₁.setTop (mkF m 2 #[.val (.ref oa), .val (.long q), .second] [(.ref oa), (.long q)])) (fun _ hk => XS.aloadN X0.here hx rfl (hb hby d5_1) rfl rfl hk) ?_
  obtain ⟨cq1, kq1, q1a, q1b, q1c⟩ := isOf hZ e0 E_a
  obtain ⟨_, _, ⟨T1, L1, k1, n1⟩, -, X1, ⟨Lc1, hQ1, l1, y1, z1⟩, st1⟩ := X0.virtualBack hx (y := (⟨"java/time/temporal/ValueRange", "getMinimum", "()J"⟩ : MethodName)) (z := (⟨"java/time/temporal/ValueRange", "getMinimum", "()J"⟩ : MethodName)) hown (mvT hZ (hw _ (List.mem_of_getElem? (i := 30) rfl))) (mvT hZ (hw _ (List.mem_of_getElem? (i := 31) rfl))) (notFace_of_selects (args := #[]) (mvT hZ (hw _ (List.mem_of_getElem? (i := 33) rfl)))) (mvT hZ (hw _ (List.mem_of_getElem? (i := 33) rfl))) (mvT hZ (hw _ (List.mem_of_getElem? (i := 32) rfl))) (by decide) (backOf (W := 2) (rm_getMin l Z a0 hw [] oa mn h0 n0 Z0 F_n) hZ (hw _ (List.mem_of_getElem? (i := 34) rfl)) (hw _ (List.mem_of_getElem? (i := 23) rfl)) (by decide) (by decide)) q1a q1c (g := (mkF m 2 #[.val (.ref oa), .val (.long q), .second] [(.ref oa), (.long q)])) rfl (by rw [hml]; rfl) (Steps.refl _) (argsL := []) (rest := [(.long q)]) (lenOf own_pd0 rfl) rfl (by show 2 * 0 + _ ≤ _; exact Nat.le_of_eq rfl) (hb hby d5_2) (fun _ _ => ⟨rfl, e0, (by decide : 0 + 0 ≤ _), (by decide : 0 + 0 ≤ _)⟩)
  dsimp only [Pt.U, Pt.locs, Pt.cells, Pt.slots] at X1 l1 y1 z1 st1 hQ1
  subst l1 y1 z1
  obtain ⟨rfl, N1q, es1⟩ := hQ1
  have N1 := Fr.app N0 N1q
  refine own_tr (V := T1.setTop (mkF m 5 #[.val (.ref oa), .val (.long q), .second] [(.long mn), (.long q)])) st1 ?_
  refine own_st (V := T1.setTop (mkF m 6 #[.val (.ref oa), .val (.long q), .second] [(.int (lcmpW q mn))])) (fun _ hk => XS.lcmp X1.here hx rfl (hb hby d5_5) rfl hk) ?_
  refine own_st (V := T1.setTop (mkF m 9 #[.val (.ref oa), .val (.long q), .second] [])) (fun _ hk => XS.ifNo X1.here hx rfl (hb hby d5_6) rfl ((if0 _ _).trans (flt (show ¬ ((lcmpW q mn) < (0 : Int32)) from (fun k => hlo ((lw_lt _ _).mp k)))).1) hk) ?_
  refine own_st (V := T1.setTop (mkF m 10 #[.val (.ref oa), .val (.long q), .second] [(.long q)])) (fun _ hk => XS.lloadN X1.here hx rfl (hb hby d5_9) rfl  hk) ?_
  refine own_st (V := T1.setTop (mkF m 11 #[.val (.ref oa), .val (.long q), .second] [(.ref oa), (.long q)])) (fun _ hk => XS.aloadN X1.here hx rfl (hb hby d5_10) rfl rfl hk) ?_
  obtain ⟨cq2, kq2, q2a, q2b, q2c⟩ := isOf hZ es1 E_a
  obtain ⟨_, _, ⟨T2, L2, k2, n2⟩, -, X2, ⟨Lc2, hQ2, l2, y2, z2⟩, st2⟩ := X1.virtualBack hx (y := (⟨"java/time/temporal/ValueRange", "getMaximum", "()J"⟩ : MethodName)) (z := (⟨"java/time/temporal/ValueRange", "getMaximum", "()J"⟩ : MethodName)) hown (mvT hZ (hw _ (List.mem_of_getElem? (i := 37) rfl))) (mvT hZ (hw _ (List.mem_of_getElem? (i := 38) rfl))) (notFace_of_selects (args := #[]) (mvT hZ (hw _ (List.mem_of_getElem? (i := 40) rfl)))) (mvT hZ (hw _ (List.mem_of_getElem? (i := 40) rfl))) (mvT hZ (hw _ (List.mem_of_getElem? (i := 39) rfl))) (by decide) (backOf (W := 2) (rm_getMax l Z a0 hw [] oa mx h0 n0 Z0 F_x) hZ (hw _ (List.mem_of_getElem? (i := 41) rfl)) (hw _ (List.mem_of_getElem? (i := 23) rfl)) (by decide) (by decide)) q2a q2c (g := (mkF m 11 #[.val (.ref oa), .val (.long q), .second] [(.ref oa), (.long q)])) rfl (by rw [hml]; rfl) (Steps.refl _) (argsL := []) (rest := [(.long q)]) (lenOf own_pd0 rfl) rfl (by show 2 * 0 + _ ≤ _; exact Nat.le_of_eq rfl) (hb hby d5_11) (fun _ _ => ⟨rfl, es1, (by decide : 0 + 0 ≤ _), (by decide : 0 + 0 ≤ _)⟩)
  dsimp only [Pt.U, Pt.locs, Pt.cells, Pt.slots] at X2 l2 y2 z2 st2 hQ2
  subst l2 y2 z2
  obtain ⟨rfl, N2q, es2⟩ := hQ2
  have N2 := Fr.app N1 N2q
  refine own_tr (V := T2.setTop (mkF m 14 #[.val (.ref oa), .val (.long q), .second] [(.long mx), (.long q)])) st2 ?_
  refine own_st (V := T2.setTop (mkF m 15 #[.val (.ref oa), .val (.long q), .second] [(.int (lcmpW q mx))])) (fun _ hk => XS.lcmp X2.here hx rfl (hb hby d5_14) rfl hk) ?_
  refine own_st (V := T2.setTop (mkF m 18 #[.val (.ref oa), .val (.long q), .second] [])) (fun _ hk => XS.ifNo X2.here hx rfl (hb hby d5_15) rfl ((if0 _ _).trans (flt (show ¬ ((0 : Int32) < (lcmpW q mx)) from (fun k => hhi ((lw_gt _ _).mp k)))).2.2.1) hk) ?_
  refine own_st (V := T2.setTop (mkF m 19 #[.val (.ref oa), .val (.long q), .second] [(.int (1 : Int32))])) (fun _ hk => XS.iconst X2.here hx rfl (hb hby d5_18) hk) ?_
  refine own_st (V := T2.setTop (mkF m 23 #[.val (.ref oa), .val (.long q), .second] [(.int (1 : Int32))])) (fun _ hk => XS.goto X2.here hx rfl (pc0 := 19) (pc' := 23) rfl (hb hby d5_19) (by decide) (by decide) hk) ?_
  exact own_retN X2 hx Bd.notSynchronized Bd.returns rfl (by simp) (hb hby d5_23) (by decide) (by decide) (fun U hU hE => hF _ _ ⟨_, _, rfl, (by rw [hU, es2]; exact ⟨rfl, N2, rfl⟩), hE⟩)
theorem d4_0 : decode jdk_2423_method_13_code 0 = .ok (.aload_n 0, 1) := by decide +kernel
theorem d4_1 : decode jdk_2423_method_13_code 1 = .ok (.lload_n 1, 1) := by decide +kernel
theorem d4_2 : decode jdk_2423_method_13_code 2 = .ok (.invokevirtual 63, 3) := by decide +kernel
theorem own_pd1 : parseMethodDescriptor "(J)Z" = some ⟨[.long], some .boolean⟩ := by decide +kernel
theorem d4_5 : decode jdk_2423_method_13_code 5 = .ok (.ifCond .ne 17, 3) := by decide +kernel
theorem d4_22 : decode jdk_2423_method_13_code 22 = .ok (.lload_n 1, 1) := by decide +kernel
theorem d4_23 : decode jdk_2423_method_13_code 23 = .ok (.lreturn, 1) := by decide +kernel
theorem own_ef_vrCheck (m : MethodId) (x0 : Addr) (x1 : Int64) (x2 : Addr) : entryFrame m #[(.ref x0), (.long x1), (.ref x2)] 4 = mkF m 0 #[.val (.ref x0), .val (.long x1), .second, .val (.ref x2)] [] := by first | (simp [entryFrame, mkF, argsToLocals, Value.category]; done) | rfl
def Q_vrCheck (Z : State) (oa fd : Addr) (q mn mx : Int64) (h0 : Heap) (n0 : Nat) (v : Option Value) (h : Heap) (L : List Loc) : Prop := v = some (.long q) ∧ Fr n0 L ∧ h = h0
set_option maxRecDepth 65536 in
set_option maxHeartbeats 40000000 in
theorem rm_vrCheck (l : Launch) (Z : State) (a0 : Array Value) (hw : ∀ d ∈ tables_1, d.before a0 Z = true) (ws : List Jvm.Cond) (oa fd : Addr) (q mn mx : Int64) (h0 : Heap) (n0 : Nat) (Z0 : n0 ≤ h0.size) (E_a : Exa Z h0 oa "java/time/temporal/ValueRange") (F_n : Fld Z h0 oa "java/time/temporal/ValueRange" "minSmallest" "J" (.long mn)) (F_x : Fld Z h0 oa "java/time/temporal/ValueRange" "maxLargest" "J" (.long mx)) (hlo : ¬ q < mn) (hhi : ¬ mx < q) :
    MetFree l (⟨"java/time/temporal/ValueRange", "checkValidValue", "(JLjava/time/temporal/TemporalField;)J"⟩ : MethodName) (head1 (Jvm.Cond.code (⟨"java/time/temporal/ValueRange", "checkValidValue", "(JLjava/time/temporal/TemporalField;)J"⟩ : MethodName) jdk_2423_method_13_code 4 (some .long) :: ws) ({ frames := 2, cells := 0, slots := 0, locals := 28 } : Room)) (fun a U => a = #[(.ref oa), (.long q), (.ref fd)] ∧ Z.Warmed39 U.vm ∧ U.heap = h0) (fun _ _ _ _ _ => True) (fun _ U o U' => ∃ v L, o = .returned v ∧ Q_vrCheck Z oa fd q mn mx h0 n0 v U'.heap L ∧ FrameEnd U o U' L ({ frames := 2, cells := 0, slots := 0, locals := 28 } : Room).cells ({ frames := 2, cells := 0, slots := 0, locals := 28 } : Room).slots) := by
  refine MetFree.of_bodySF (plainFor_of_name own_pn_java_time_temporal_ValueRange) hisR ?_
  intro p e s m args below meth c s₁ Bd hml0 hP hK
  obtain ⟨rfl, hZ, hh⟩ := hP
  have hx := Bd.exec
  have hby := Bd.bytes
  have hml : c.maxLocals = 4 := hml0
  have hown : s.vm.findClass "java/time/temporal/ValueRange" = some m.cls := findClass_of_methodNamed Bd.named
  have hnm := (name_of_methodNamed Bd.named Bd.method).1
  have X0 : Stand p l e ({ frames := 2, cells := 0, slots := 0, locals := 28 } : Room) s m #[(.ref oa), (.long q), (.ref fd)] below meth c s₁ [] 0 0 := Stand.of_body Bd
  have e0 : s₁.heap = h0 := by rw [← hh, Bd.state]; rfl
  have N0 := Fr.nil n0
  refine own_start (F0 := fun o U' => ∃ v L, o = .returned v ∧ Q_vrCheck Z oa fd q mn mx h0 n0 v U'.heap L ∧ FrameEnd s o U' L ({ frames := 2, cells := 0, slots := 0, locals := 28 } : Room).cells ({ frames := 2, cells := 0, slots := 0, locals := 28 } : Room).slots) fun F hF => ?_
  rw [own_ef_vrCheck m oa q fd]
  refine own_st (V := s₁.setTop (mkF m 1 #[.val (.ref oa), .val (.long q), .second, .val (.ref fd)] [(.ref oa)])) (fun _ hk => XS.aloadN X0.here hx rfl (hb hby d4_0) rfl rfl hk) ?_
  refine own_st (V := s₁.setTop (mkF m 2 #[.val (.ref oa), .val (.long q), .second, .val (.ref fd)] [(.long q), (.ref oa)])) (fun _ hk => XS.lloadN X0.here hx rfl (hb hby d4_1) rfl  hk) ?_
  obtain ⟨cq1, kq1, q1a, q1b, q1c⟩ := isOf hZ e0 E_a
  obtain ⟨_, _, ⟨T1, L1, k1, n1⟩, -, X1, ⟨Lc1, hQ1, l1, y1, z1⟩, st1⟩ := X0.virtualBack hx (y := (⟨"java/time/temporal/ValueRange", "isValidValue", "(J)Z"⟩ : MethodName)) (z := (⟨"java/time/temporal/ValueRange", "isValidValue", "(J)Z"⟩ : MethodName)) hown (mvT hZ (hw _ (List.mem_of_getElem? (i := 25) rfl))) (mvT hZ (hw _ (List.mem_of_getElem? (i := 26) rfl))) (notFace_of_selects (args := #[]) (mvT hZ (hw _ (List.mem_of_getElem? (i := 28) rfl)))) (mvT hZ (hw _ (List.mem_of_getElem? (i := 28) rfl))) (mvT hZ (hw _ (List.mem_of_getElem? (i := 27) rfl))) (by decide) (backOf (W := 0) (rm_isValid l Z a0 hw [] oa q mn mx h0 n0 Z0 E_a F_n F_x hlo hhi) hZ (hw _ (List.mem_of_getElem? (i := 29) rfl)) (hw _ (List.mem_of_getElem? (i := 23) rfl)) (by decide) (by decide)) q1a q1c (g := (mkF m 2 #[.val (.ref oa), .val (.long q), .second, .val (.ref fd)] [(.long q), (.ref oa)])) rfl (by rw [hml]; rfl) (Steps.refl _) (argsL := [(.long q)]) (rest := []) (lenOf own_pd1 rfl) rfl (by show 2 * 0 + _ ≤ _; exact Nat.le_of_eq rfl) (hb hby d4_2) (fun _ _ => ⟨rfl, e0, (by decide : 0 + 0 ≤ _), (by decide : 0 + 0 ≤ _)⟩)
  dsimp only [Pt.U, Pt.locs, Pt.cells, Pt.slots] at X1 l1 y1 z1 st1 hQ1
  subst l1 y1 z1
  obtain ⟨rfl, N1q, es1⟩ := hQ1
  have N1 := Fr.app N0 N1q
  refine own_tr (V := T1.setTop (mkF m 5 #[.val (.ref oa), .val (.long q), .second, .val (.ref fd)] [(.int (1 : Int32))])) st1 ?_
  refine own_st (V := T1.setTop (mkF m 22 #[.val (.ref oa), .val (.long q), .second, .val (.ref fd)] [])) (fun _ hk => XS.ifYes X1.here hx rfl (pc0 := 5) (pc' := 22) rfl (hb hby d4_5) rfl ((if0 _ _).trans (feq (show ¬ ((1 : Int32) = (0 : Int32)) from (by decide))).2) (by decide) (by decide) hk) ?_
  refine own_st (V := T1.setTop (mkF m 23 #[.val (.ref oa), .val (.long q), .second, .val (.ref fd)] [(.long q)])) (fun _ hk => XS.lloadN X1.here hx rfl (hb hby d4_22) rfl  hk) ?_
  exact own_retL X1 hx Bd.notSynchronized Bd.returns (hb hby d4_23) (by decide) (by decide) (fun U hU hE => hF _ _ ⟨_, _, rfl, (by rw [hU, es1]; exact ⟨rfl, N1, rfl⟩), hE⟩)
theorem d2_0 : decode jdk_2395_method_11_code 0 = .ok (.aload_n 0, 1) := by decide +kernel
theorem d2_1 : decode jdk_2395_method_11_code 1 = .ok (.invokevirtual 190, 3) := by decide +kernel
theorem own_pd2 : parseMethodDescriptor "()Ljava/time/temporal/ValueRange;" = some ⟨[], some (.object "java/time/temporal/ValueRange")⟩ := by decide +kernel
theorem d2_4 : decode jdk_2395_method_11_code 4 = .ok (.lload_n 1, 1) := by decide +kernel
theorem d2_5 : decode jdk_2395_method_11_code 5 = .ok (.aload_n 0, 1) := by decide +kernel
theorem d2_6 : decode jdk_2395_method_11_code 6 = .ok (.invokevirtual 193, 3) := by decide +kernel
theorem own_pd3 : parseMethodDescriptor "(JLjava/time/temporal/TemporalField;)J" = some ⟨[.long, (.object "java/time/temporal/TemporalField")], some .long⟩ := by decide +kernel
theorem d2_9 : decode jdk_2395_method_11_code 9 = .ok (.lreturn, 1) := by decide +kernel
theorem own_ef_cfCheck (m : MethodId) (x0 : Addr) (x1 : Int64) : entryFrame m #[(.ref x0), (.long x1)] 3 = mkF m 0 #[.val (.ref x0), .val (.long x1), .second] [] := by first | (simp [entryFrame, mkF, argsToLocals, Value.category]; done) | rfl
def Q_cfCheck (Z : State) (fd oa : Addr) (q mn mx : Int64) (h0 : Heap) (n0 : Nat) (v : Option Value) (h : Heap) (L : List Loc) : Prop := v = some (.long q) ∧ Fr n0 L ∧ h = h0
set_option maxRecDepth 65536 in
set_option maxHeartbeats 40000000 in
theorem rm_cfCheck (l : Launch) (Z : State) (a0 : Array Value) (hw : ∀ d ∈ tables_1, d.before a0 Z = true) (ws : List Jvm.Cond) (fd oa : Addr) (q mn mx : Int64) (h0 : Heap) (n0 : Nat) (Z0 : n0 ≤ h0.size) (E_f : Exa Z h0 fd "java/time/temporal/ChronoField") (F_r : Fld Z h0 fd "java/time/temporal/ChronoField" "range" "Ljava/time/temporal/ValueRange;" (.ref oa)) (E_a : Exa Z h0 oa "java/time/temporal/ValueRange") (F_n : Fld Z h0 oa "java/time/temporal/ValueRange" "minSmallest" "J" (.long mn)) (F_x : Fld Z h0 oa "java/time/temporal/ValueRange" "maxLargest" "J" (.long mx)) (hlo : ¬ q < mn) (hhi : ¬ mx < q) :
    MetFree l (⟨"java/time/temporal/ChronoField", "checkValidValue", "(J)J"⟩ : MethodName) (head1 (Jvm.Cond.code (⟨"java/time/temporal/ChronoField", "checkValidValue", "(J)J"⟩ : MethodName) jdk_2395_method_11_code 3 (some .long) :: ws) ({ frames := 3, cells := 0, slots := 0, locals := 43 } : Room)) (fun a U => a = #[(.ref fd), (.long q)] ∧ Z.Warmed39 U.vm ∧ U.heap = h0) (fun _ _ _ _ _ => True) (fun _ U o U' => ∃ v L, o = .returned v ∧ Q_cfCheck Z fd oa q mn mx h0 n0 v U'.heap L ∧ FrameEnd U o U' L ({ frames := 3, cells := 0, slots := 0, locals := 43 } : Room).cells ({ frames := 3, cells := 0, slots := 0, locals := 43 } : Room).slots) := by
  refine MetFree.of_bodySF (plainFor_of_name own_pn_java_time_temporal_ChronoField) hisR ?_
  intro p e s m args below meth c s₁ Bd hml0 hP hK
  obtain ⟨rfl, hZ, hh⟩ := hP
  have hx := Bd.exec
  have hby := Bd.bytes
  have hml : c.maxLocals = 3 := hml0
  have hown : s.vm.findClass "java/time/temporal/ChronoField" = some m.cls := findClass_of_methodNamed Bd.named
  have hnm := (name_of_methodNamed Bd.named Bd.method).1
  have X0 : Stand p l e ({ frames := 3, cells := 0, slots := 0, locals := 43 } : Room) s m #[(.ref fd), (.long q)] below meth c s₁ [] 0 0 := Stand.of_body Bd
  have e0 : s₁.heap = h0 := by rw [← hh, Bd.state]; rfl
  have N0 := Fr.nil n0
  refine own_start (F0 := fun o U' => ∃ v L, o = .returned v ∧ Q_cfCheck Z fd oa q mn mx h0 n0 v U'.heap L ∧ FrameEnd s o U' L ({ frames := 3, cells := 0, slots := 0, locals := 43 } : Room).cells ({ frames := 3, cells := 0, slots := 0, locals := 43 } : Room).slots) fun F hF => ?_
  rw [own_ef_cfCheck m fd q]
  refine own_st (V := s₁.setTop (mkF m 1 #[.val (.ref fd), .val (.long q), .second] [(.ref fd)])) (fun _ hk => XS.aloadN X0.here hx rfl (hb hby d2_0) rfl rfl hk) ?_
  obtain ⟨cq1, kq1, q1a, q1b, q1c⟩ := isOf hZ e0 E_f
  obtain ⟨_, _, ⟨T1, L1, k1, n1⟩, -, X1, ⟨Lc1, hQ1, l1, y1, z1⟩, st1⟩ := X0.virtualBack hx (y := (⟨"java/time/temporal/ChronoField", "range", "()Ljava/time/temporal/ValueRange;"⟩ : MethodName)) (z := (⟨"java/time/temporal/ChronoField", "range", "()Ljava/time/temporal/ValueRange;"⟩ : MethodName)) hown (mvT hZ (hw _ (List.mem_of_getElem? (i := 12) rfl))) (mvT hZ (hw _ (List.mem_of_getElem? (i := 13) rfl))) (notFace_of_selects (args := #[]) (mvT hZ (hw _ (List.mem_of_getElem? (i := 15) rfl)))) (mvT hZ (hw _ (List.mem_of_getElem? (i := 15) rfl))) (mvT hZ (hw _ (List.mem_of_getElem? (i := 14) rfl))) (by decide) (backOf (W := 0) (rm_range l Z a0 hw [] fd oa h0 n0 Z0 F_r) hZ (hw _ (List.mem_of_getElem? (i := 16) rfl)) (hw _ (List.mem_of_getElem? (i := 6) rfl)) (by decide) (by decide)) q1a q1c (g := (mkF m 1 #[.val (.ref fd), .val (.long q), .second] [(.ref fd)])) rfl (by rw [hml]; rfl) (Steps.refl _) (argsL := []) (rest := []) (lenOf own_pd2 rfl) rfl (by show 2 * 0 + _ ≤ _; exact Nat.le_of_eq rfl) (hb hby d2_1) (fun _ _ => ⟨rfl, e0, (by decide : 0 + 0 ≤ _), (by decide : 0 + 0 ≤ _)⟩)
  dsimp only [Pt.U, Pt.locs, Pt.cells, Pt.slots] at X1 l1 y1 z1 st1 hQ1
  subst l1 y1 z1
  obtain ⟨rfl, N1q, es1⟩ := hQ1
  have N1 := Fr.app N0 N1q
  refine own_tr (V := T1.setTop (mkF m 4 #[.val (.ref fd), .val (.long q), .second] [(.ref oa)])) st1 ?_
  refine own_st (V := T1.setTop (mkF m 5 #[.val (.ref fd), .val (.long q), .second] [(.long q), (.ref oa)])) (fun _ hk => XS.lloadN X1.here hx rfl (hb hby d2_4) rfl  hk) ?_
  refine own_st (V := T1.setTop (mkF m 6 #[.val (.ref fd), .val (.long q), .second] [(.ref fd), (.long q), (.ref oa)])) (fun _ hk => XS.aloadN X1.here hx rfl (hb hby d2_5) rfl rfl hk) ?_
  obtain ⟨cq2, kq2, q2a, q2b, q2c⟩ := isOf hZ es1 E_a
  obtain ⟨_, _, ⟨T2, L2, k2, n2⟩, -, X2, ⟨Lc2, hQ2, l2, y2, z2⟩, st2⟩ := X1.virtualBack hx (y := (⟨"java/time/temporal/ValueRange", "checkValidValue", "(JLjava/time/temporal/TemporalField;)J"⟩ : MethodName)) (z := (⟨"java/time/temporal/ValueRange", "checkValidValue", "(JLjava/time/temporal/TemporalField;)J"⟩ : MethodName)) hown (mvT hZ (hw _ (List.mem_of_getElem? (i := 19) rfl))) (mvT hZ (hw _ (List.mem_of_getElem? (i := 20) rfl))) (notFace_of_selects (args := #[]) (mvT hZ (hw _ (List.mem_of_getElem? (i := 22) rfl)))) (mvT hZ (hw _ (List.mem_of_getElem? (i := 22) rfl))) (mvT hZ (hw _ (List.mem_of_getElem? (i := 21) rfl))) (by decide) (backOf (W := 0) (rm_vrCheck l Z a0 hw [] oa fd q mn mx h0 n0 Z0 E_a F_n F_x hlo hhi) hZ (hw _ (List.mem_of_getElem? (i := 24) rfl)) (hw _ (List.mem_of_getElem? (i := 23) rfl)) (by decide) (by decide)) q2a q2c (g := (mkF m 6 #[.val (.ref fd), .val (.long q), .second] [(.ref fd), (.long q), (.ref oa)])) rfl (by rw [hml]; rfl) (Steps.refl _) (argsL := [(.long q), (.ref fd)]) (rest := []) (lenOf own_pd3 rfl) rfl (by show 2 * 0 + _ ≤ _; exact Nat.le_of_eq rfl) (hb hby d2_6) (fun _ _ => ⟨rfl, es1, (by decide : 0 + 0 ≤ _), (by decide : 0 + 0 ≤ _)⟩)
  dsimp only [Pt.U, Pt.locs, Pt.cells, Pt.slots] at X2 l2 y2 z2 st2 hQ2
  subst l2 y2 z2
  obtain ⟨rfl, N2q, es2⟩ := hQ2
  have N2 := Fr.app N1 N2q
  refine own_tr (V := T2.setTop (mkF m 9 #[.val (.ref fd), .val (.long q), .second] [(.long q)])) st2 ?_
  exact own_retL X2 hx Bd.notSynchronized Bd.returns (hb hby d2_9) (by decide) (by decide) (fun U hU hE => hF _ _ ⟨_, _, rfl, (by rw [hU, es2]; exact ⟨rfl, N2, rfl⟩), hE⟩)
theorem d8_0 : decode jdk_2323_method_14_code 0 = .ok (.aload_n 0, 1) := by decide +kernel
theorem d8_1 : decode jdk_2323_method_14_code 1 = .ok (.invokespecial 243, 3) := by decide +kernel
theorem d8_4 : decode jdk_2323_method_14_code 4 = .ok (.aload_n 0, 1) := by decide +kernel
theorem d8_5 : decode jdk_2323_method_14_code 5 = .ok (.iload_n 1, 1) := by decide +kernel
theorem d8_6 : decode jdk_2323_method_14_code 6 = .ok (.putfield 246, 3) := by decide +kernel
theorem d8_9 : decode jdk_2323_method_14_code 9 = .ok (.aload_n 0, 1) := by decide +kernel
theorem d8_10 : decode jdk_2323_method_14_code 10 = .ok (.iload_n 2, 1) := by decide +kernel
theorem d8_11 : decode jdk_2323_method_14_code 11 = .ok (.i2s, 1) := by decide +kernel
theorem d8_12 : decode jdk_2323_method_14_code 12 = .ok (.putfield 250, 3) := by decide +kernel
theorem d8_15 : decode jdk_2323_method_14_code 15 = .ok (.aload_n 0, 1) := by decide +kernel
theorem d8_16 : decode jdk_2323_method_14_code 16 = .ok (.iload_n 3, 1) := by decide +kernel
theorem d8_17 : decode jdk_2323_method_14_code 17 = .ok (.i2s, 1) := by decide +kernel
theorem d8_18 : decode jdk_2323_method_14_code 18 = .ok (.putfield 253, 3) := by decide +kernel
theorem d8_21 : decode jdk_2323_method_14_code 21 = .ok (.return_, 1) := by decide +kernel
theorem own_pn_java_time_LocalDate : plainName "java/time/LocalDate" = true := by first | (simp [plainName, overriddenIn]; done) | decide +kernel
theorem own_ef_ldInit (m : MethodId) (x0 : Addr) (x1 : Int32) (x2 : Int32) (x3 : Int32) : entryFrame m #[(.ref x0), (.int x1), (.int x2), (.int x3)] 4 = mkF m 0 #[.val (.ref x0), .val (.int x1), .val (.int x2), .val (.int x3)] [] := by first | (simp [entryFrame, mkF, argsToLocals, Value.category]; done) | rfl
def Q_ldInit (Z : State) (oa : Addr) (y1 y2 y3 : Int32) (u1 u2 u3 : Value) (h0 : Heap) (n0 : Nat) (v : Option Value) (h : Heap) (L : List Loc) : Prop := v = none ∧ Fr n0 L ∧ Keep h0 h [oa]
set_option maxRecDepth 65536 in
set_option maxHeartbeats 40000000 in
theorem rm_ldInit (l : Launch) (Z : State) (a0 : Array Value) (hw : ∀ d ∈ tables_1, d.before a0 Z = true) (ws : List Jvm.Cond) (oa : Addr) (y1 y2 y3 : Int32) (u1 u2 u3 : Value) (h0 : Heap) (n0 : Nat) (Z0 : n0 ≤ h0.size) (E_a : Exa Z h0 oa "java/time/LocalDate") (F_y : Fld Z h0 oa "java/time/LocalDate" "year" "I" u1) (F_m : Fld Z h0 oa "java/time/LocalDate" "month" "S" u2) (F_d : Fld Z h0 oa "java/time/LocalDate" "day" "S" u3) (g_oa : n0 ≤ oa) :
    MetFree l (⟨"java/time/LocalDate", "<init>", "(III)V"⟩ : MethodName) (head1 (Jvm.Cond.code (⟨"java/time/LocalDate", "<init>", "(III)V"⟩ : MethodName) jdk_2323_method_14_code 4 none :: ws) ({ frames := 1, cells := 0, slots := 0, locals := 12 } : Room)) (fun a U => a = #[(.ref oa), (.int y1), (.int y2), (.int y3)] ∧ Z.Warmed39 U.vm ∧ U.heap = h0) (fun _ _ _ _ _ => True) (fun _ U o U' => ∃ v L, o = .returned v ∧ Q_ldInit Z oa y1 y2 y3 u1 u2 u3 h0 n0 v U'.heap L ∧ FrameEnd U o U' L ({ frames := 1, cells := 0, slots := 0, locals := 12 } : Room).cells ({ frames := 1, cells := 0, slots := 0, locals := 12 } : Room).slots) := by
  refine MetFree.of_bodySF (plainFor_of_name own_pn_java_time_LocalDate) hisR ?_
  intro p e s m args below meth c s₁ Bd hml0 hP hK
  obtain ⟨rfl, hZ, hh⟩ := hP
  have hx := Bd.exec
  have hby := Bd.bytes
  have hml : c.maxLocals = 4 := hml0
  have hown : s.vm.findClass "java/time/LocalDate" = some m.cls := findClass_of_methodNamed Bd.named
  have hnm := (name_of_methodNamed Bd.named Bd.method).1
  have X0 : Stand p l e ({ frames := 1, cells := 0, slots := 0, locals := 12 } : Room) s m #[(.ref oa), (.int y1), (.int y2), (.int y3)] below meth c s₁ [] 0 0 := Stand.of_body Bd
  have e0 : s₁.heap = h0 := by rw [← hh, Bd.state]; rfl
  have N0 := Fr.nil n0
  refine own_start (F0 := fun o U' => ∃ v L, o = .returned v ∧ Q_ldInit Z oa y1 y2 y3 u1 u2 u3 h0 n0 v U'.heap L ∧ FrameEnd s o U' L ({ frames := 1, cells := 0, slots := 0, locals := 12 } : Room).cells ({ frames := 1, cells := 0, slots := 0, locals := 12 } : Room).slots) fun F hF => ?_
  rw [own_ef_ldInit m oa y1 y2 y3]
  have K := Keep.refl h0 [oa]
  refine own_st (V := s₁.setTop (mkF m 1 #[.val (.ref oa), .val (.int y1), .val (.int y2), .val (.int y3)] [(.ref oa)])) (fun _ hk => XS.aloadN X0.here hx rfl (hb hby d8_0) rfl rfl hk) ?_
  obtain ⟨T1, X1, e1, st1⟩ := initO X0 hx hZ hown (hw _ (List.mem_of_getElem? (i := 58) rfl)) (hw _ (List.mem_of_getElem? (i := 59) rfl)) (hw _ (List.mem_of_getElem? (i := 60) rfl)) e0 (g := (mkF m 1 #[.val (.ref oa), .val (.int y1), .val (.int y2), .val (.int y3)] [(.ref oa)])) rfl (by rw [hml]; rfl) rfl (hb hby d8_1) (by decide) (W := 0) (by show 2 * 0 + _ ≤ _; exact Nat.le_of_eq rfl) (by decide)
  refine own_st (V := T1.setTop (mkF m 4 #[.val (.ref oa), .val (.int y1), .val (.int y2), .val (.int y3)] [])) st1 ?_
  refine own_st (V := T1.setTop (mkF m 5 #[.val (.ref oa), .val (.int y1), .val (.int y2), .val (.int y3)] [(.ref oa)])) (fun _ hk => XS.aloadN X1.here hx rfl (hb hby d8_4) rfl rfl hk) ?_
  refine own_st (V := T1.setTop (mkF m 6 #[.val (.ref oa), .val (.int y1), .val (.int y2), .val (.int y3)] [(.int y1), (.ref oa)])) (fun _ hk => XS.iloadN X1.here hx rfl (hb hby d8_5) rfl  hk) ?_
  obtain ⟨T2, h2, X2, e2, W2, st2⟩ := putF X1 hx hZ hown (host := "") (Or.inl (hw _ (List.mem_of_getElem? (i := 61) rfl))) Via.refl e1 F_y E_a (Or.inr ⟨(hw _ (List.mem_of_getElem? (i := 62) rfl)), rfl, hnm⟩) (hw _ (List.mem_of_getElem? (i := 53) rfl)) (ty := .int) (by decide) rfl rfl (g := (mkF m 6 #[.val (.ref oa), .val (.int y1), .val (.int y2), .val (.int y3)] [(.int y1), (.ref oa)])) rfl rfl (hb hby d8_6)
  have E_a := E_a.wr W2
  have F_m := F_m.other W2 (Or.inr (slot_ne (Or.inr (hw _ (List.mem_of_getElem? (i := 64) rfl))) (Or.inr (hw _ (List.mem_of_getElem? (i := 62) rfl))) (by decide) (t := .short) (t' := .int) (by decide) (by decide)))
  have F_d := F_d.other W2 (Or.inr (slot_ne (Or.inr (hw _ (List.mem_of_getElem? (i := 66) rfl))) (Or.inr (hw _ (List.mem_of_getElem? (i := 62) rfl))) (by decide) (t := .short) (t' := .int) (by decide) (by decide)))
  have F_y := F_y.same W2
  have K := K.wr W2 (Or.inl (List.mem_of_getElem? (i := 0) rfl))
  have N2 := Fr.snoc X2 N0 g_oa
  have Z0 : n0 ≤ h2.size := Nat.le_trans Z0 (Keep.of_wr W2).1
  refine own_st (V := T2.setTop (mkF m 9 #[.val (.ref oa), .val (.int y1), .val (.int y2), .val (.int y3)] [])) st2 ?_
  refine own_st (V := T2.setTop (mkF m 10 #[.val (.ref oa), .val (.int y1), .val (.int y2), .val (.int y3)] [(.ref oa)])) (fun _ hk => XS.aloadN X2.here hx rfl (hb hby d8_9) rfl rfl hk) ?_
  refine own_st (V := T2.setTop (mkF m 11 #[.val (.ref oa), .val (.int y1), .val (.int y2), .val (.int y3)] [(.int y2), (.ref oa)])) (fun _ hk => XS.iloadN X2.here hx rfl (hb hby d8_10) rfl  hk) ?_
  refine own_st (V := T2.setTop (mkF m 12 #[.val (.ref oa), .val (.int y1), .val (.int y2), .val (.int y3)] [(.int (y2.toInt16.toInt32)), (.ref oa)])) (fun _ hk => XS.i2s X2.here hx rfl (hb hby d8_11) rfl hk) ?_
  obtain ⟨T3, h3, X3, e3, W3, st3⟩ := putF X2 hx hZ hown (host := "") (Or.inl (hw _ (List.mem_of_getElem? (i := 63) rfl))) Via.refl e2 F_m E_a (Or.inr ⟨(hw _ (List.mem_of_getElem? (i := 64) rfl)), rfl, hnm⟩) (hw _ (List.mem_of_getElem? (i := 53) rfl)) (ty := .short) (by decide) (own_nars _) (fits_nar_short _) (g := (mkF m 12 #[.val (.ref oa), .val (.int y1), .val (.int y2), .val (.int y3)] [(.int (y2.toInt16.toInt32)), (.ref oa)])) rfl rfl (hb hby d8_12)
  have E_a := E_a.wr W3
  have F_y := F_y.other W3 (Or.inr (slot_ne (Or.inr (hw _ (List.mem_of_getElem? (i := 62) rfl))) (Or.inr (hw _ (List.mem_of_getElem? (i := 64) rfl))) (by decide) (t := .int) (t' := .short) (by decide) (by decide)))
  have F_d := F_d.other W3 (Or.inr (slot_ne (Or.inr (hw _ (List.mem_of_getElem? (i := 66) rfl))) (Or.inr (hw _ (List.mem_of_getElem? (i := 64) rfl))) (by decide) (t := .short) (t' := .short) (by decide) (by decide)))
  have F_m := F_m.same W3
  have K := K.wr W3 (Or.inl (List.mem_of_getElem? (i := 0) rfl))
  have N3 := Fr.snoc X3 N2 g_oa
  have Z0 : n0 ≤ h3.size := Nat.le_trans Z0 (Keep.of_wr W3).1
  refine own_st (V := T3.setTop (mkF m 15 #[.val (.ref oa), .val (.int y1), .val (.int y2), .val (.int y3)] [])) st3 ?_
  refine own_st (V := T3.setTop (mkF m 16 #[.val (.ref oa), .val (.int y1), .val (.int y2), .val (.int y3)] [(.ref oa)])) (fun _ hk => XS.aloadN X3.here hx rfl (hb hby d8_15) rfl rfl hk) ?_
  refine own_st (V := T3.setTop (mkF m 17 #[.val (.ref oa), .val (.int y1), .val (.int y2), .val (.int y3)] [(.int y3), (.ref oa)])) (fun _ hk => XS.iloadN X3.here hx rfl (hb hby d8_16) rfl  hk) ?_
  refine own_st (V := T3.setTop (mkF m 18 #[.val (.ref oa), .val (.int y1), .val (.int y2), .val (.int y3)] [(.int (y3.toInt16.toInt32)), (.ref oa)])) (fun _ hk => XS.i2s X3.here hx rfl (hb hby d8_17) rfl hk) ?_
  obtain ⟨T4, h4, X4, e4, W4, st4⟩ := putF X3 hx hZ hown (host := "") (Or.inl (hw _ (List.mem_of_getElem? (i := 65) rfl))) Via.refl e3 F_d E_a (Or.inr ⟨(hw _ (List.mem_of_getElem? (i := 66) rfl)), rfl, hnm⟩) (hw _ (List.mem_of_getElem? (i := 53) rfl)) (ty := .short) (by decide) (own_nars _) (fits_nar_short _) (g := (mkF m 18 #[.val (.ref oa), .val (.int y1), .val (.int y2), .val (.int y3)] [(.int (y3.toInt16.toInt32)), (.ref oa)])) rfl rfl (hb hby d8_18)
  have E_a := E_a.wr W4
  have F_y := F_y.other W4 (Or.inr (slot_ne (Or.inr (hw _ (List.mem_of_getElem? (i := 62) rfl))) (Or.inr (hw _ (List.mem_of_getElem? (i := 66) rfl))) (by decide) (t := .int) (t' := .short) (by decide) (by decide)))
  have F_m := F_m.other W4 (Or.inr (slot_ne (Or.inr (hw _ (List.mem_of_getElem? (i := 64) rfl))) (Or.inr (hw _ (List.mem_of_getElem? (i := 66) rfl))) (by decide) (t := .short) (t' := .short) (by decide) (by decide)))
  have F_d := F_d.same W4
  have K := K.wr W4 (Or.inl (List.mem_of_getElem? (i := 0) rfl))
  have N4 := Fr.snoc X4 N3 g_oa
  have Z0 : n0 ≤ h4.size := Nat.le_trans Z0 (Keep.of_wr W4).1
  refine own_st (V := T4.setTop (mkF m 21 #[.val (.ref oa), .val (.int y1), .val (.int y2), .val (.int y3)] [])) st4 ?_
  exact own_retV X4 hx Bd.notSynchronized Bd.returns (hb hby d8_21) (by decide) (by decide) (fun U hU hE => hF _ _ ⟨_, _, rfl, (by rw [hU, e4]; exact ⟨rfl, N4, K⟩), hE⟩)
theorem d1_0 : decode jdk_2323_method_8_code 0 = .ok (.getstatic 161, 3) := by decide +kernel
theorem d1_3 : decode jdk_2323_method_8_code 3 = .ok (.lload_n 0, 1) := by decide +kernel
theorem d1_4 : decode jdk_2323_method_8_code 4 = .ok (.invokevirtual 45, 3) := by decide +kernel
theorem own_pd4 : parseMethodDescriptor "(J)J" = some ⟨[.long], some .long⟩ := by decide +kernel
theorem d1_220 : decode jdk_2323_method_8_code 220 = .ok (.new 1, 3) := by decide +kernel
theorem d1_223 : decode jdk_2323_method_8_code 223 = .ok (.dup, 1) := by decide +kernel
theorem d1_224 : decode jdk_2323_method_8_code 224 = .ok (.lload 6, 2) := by decide +kernel
theorem d1_226 : decode jdk_2323_method_8_code 226 = .ok (.l2i, 1) := by decide +kernel
theorem d1_227 : decode jdk_2323_method_8_code 227 = .ok (.iload 12, 2) := by decide +kernel
theorem d1_229 : decode jdk_2323_method_8_code 229 = .ok (.iload 13, 2) := by decide +kernel
theorem d1_231 : decode jdk_2323_method_8_code 231 = .ok (.invokespecial 121, 3) := by decide +kernel
theorem own_pd5 : parseMethodDescriptor "(III)V" = some ⟨[.int, .int, .int], none⟩ := by decide +kernel
theorem d1_234 : decode jdk_2323_method_8_code 234 = .ok (.areturn, 1) := by decide +kernel
theorem d1_188 : decode jdk_2323_method_8_code 188 = .ok (.iload 10, 2) := by decide +kernel
theorem d1_190 : decode jdk_2323_method_8_code 190 = .ok (.iload 11, 2) := by decide +kernel
theorem d1_192 : decode jdk_2323_method_8_code 192 = .ok (.sipush 306, 3) := by decide +kernel
theorem d1_195 : decode jdk_2323_method_8_code 195 = .ok (.imul, 1) := by decide +kernel
theorem d1_196 : decode jdk_2323_method_8_code 196 = .ok (.iconst 5, 1) := by decide +kernel
theorem d1_197 : decode jdk_2323_method_8_code 197 = .ok (.iadd, 1) := by decide +kernel
theorem d1_198 : decode jdk_2323_method_8_code 198 = .ok (.bipush 10, 2) := by decide +kernel
theorem d1_200 : decode jdk_2323_method_8_code 200 = .ok (.idiv, 1) := by decide +kernel
theorem d1_201 : decode jdk_2323_method_8_code 201 = .ok (.isub, 1) := by decide +kernel
theorem d1_202 : decode jdk_2323_method_8_code 202 = .ok (.iconst 1, 1) := by decide +kernel
theorem d1_203 : decode jdk_2323_method_8_code 203 = .ok (.iadd, 1) := by decide +kernel
theorem d1_204 : decode jdk_2323_method_8_code 204 = .ok (.istore 13, 2) := by decide +kernel
theorem d1_206 : decode jdk_2323_method_8_code 206 = .ok (.iload 10, 2) := by decide +kernel
theorem d1_208 : decode jdk_2323_method_8_code 208 = .ok (.sipush 306, 3) := by decide +kernel
theorem d1_211 : decode jdk_2323_method_8_code 211 = .ok (.if_icmp .lt 9, 3) := by decide +kernel
theorem d1_214 : decode jdk_2323_method_8_code 214 = .ok (.lload 6, 2) := by decide +kernel
theorem d1_216 : decode jdk_2323_method_8_code 216 = .ok (.lconst 1, 1) := by decide +kernel
theorem d1_217 : decode jdk_2323_method_8_code 217 = .ok (.ladd, 1) := by decide +kernel
theorem d1_218 : decode jdk_2323_method_8_code 218 = .ok (.lstore 6, 2) := by decide +kernel
theorem d1_148 : decode jdk_2323_method_8_code 148 = .ok (.lload 6, 2) := by decide +kernel
theorem d1_150 : decode jdk_2323_method_8_code 150 = .ok (.lload 4, 2) := by decide +kernel
theorem d1_152 : decode jdk_2323_method_8_code 152 = .ok (.ladd, 1) := by decide +kernel
theorem d1_153 : decode jdk_2323_method_8_code 153 = .ok (.lstore 6, 2) := by decide +kernel
theorem d1_155 : decode jdk_2323_method_8_code 155 = .ok (.lload 8, 2) := by decide +kernel
theorem d1_157 : decode jdk_2323_method_8_code 157 = .ok (.l2i, 1) := by decide +kernel
theorem d1_158 : decode jdk_2323_method_8_code 158 = .ok (.istore 10, 2) := by decide +kernel
theorem d1_160 : decode jdk_2323_method_8_code 160 = .ok (.iload 10, 2) := by decide +kernel
theorem d1_162 : decode jdk_2323_method_8_code 162 = .ok (.iconst 5, 1) := by decide +kernel
theorem d1_163 : decode jdk_2323_method_8_code 163 = .ok (.imul, 1) := by decide +kernel
theorem d1_164 : decode jdk_2323_method_8_code 164 = .ok (.iconst 2, 1) := by decide +kernel
theorem d1_165 : decode jdk_2323_method_8_code 165 = .ok (.iadd, 1) := by decide +kernel
theorem d1_166 : decode jdk_2323_method_8_code 166 = .ok (.sipush 153, 3) := by decide +kernel
theorem d1_169 : decode jdk_2323_method_8_code 169 = .ok (.idiv, 1) := by decide +kernel
theorem d1_170 : decode jdk_2323_method_8_code 170 = .ok (.istore 11, 2) := by decide +kernel
theorem d1_172 : decode jdk_2323_method_8_code 172 = .ok (.iload 11, 2) := by decide +kernel
theorem d1_174 : decode jdk_2323_method_8_code 174 = .ok (.iconst 3, 1) := by decide +kernel
theorem d1_175 : decode jdk_2323_method_8_code 175 = .ok (.iadd, 1) := by decide +kernel
theorem d1_176 : decode jdk_2323_method_8_code 176 = .ok (.istore 12, 2) := by decide +kernel
theorem d1_178 : decode jdk_2323_method_8_code 178 = .ok (.iload 12, 2) := by decide +kernel
theorem d1_180 : decode jdk_2323_method_8_code 180 = .ok (.bipush 12, 2) := by decide +kernel
theorem d1_182 : decode jdk_2323_method_8_code 182 = .ok (.if_icmp .le 6, 3) := by decide +kernel
theorem d1_185 : decode jdk_2323_method_8_code 185 = .ok (.iinc 12 (-12), 3) := by decide +kernel
theorem d1_7 : decode jdk_2323_method_8_code 7 = .ok (.pop2, 1) := by decide +kernel
theorem d1_8 : decode jdk_2323_method_8_code 8 = .ok (.lload_n 0, 1) := by decide +kernel
theorem d1_9 : decode jdk_2323_method_8_code 9 = .ok (.ldc2_w 164, 3) := by decide +kernel
theorem d1_12 : decode jdk_2323_method_8_code 12 = .ok (.ladd, 1) := by decide +kernel
theorem d1_13 : decode jdk_2323_method_8_code 13 = .ok (.lstore_n 2, 1) := by decide +kernel
theorem d1_14 : decode jdk_2323_method_8_code 14 = .ok (.lload_n 2, 1) := by decide +kernel
theorem d1_15 : decode jdk_2323_method_8_code 15 = .ok (.ldc2_w 166, 3) := by decide +kernel
theorem d1_18 : decode jdk_2323_method_8_code 18 = .ok (.lsub, 1) := by decide +kernel
theorem d1_19 : decode jdk_2323_method_8_code 19 = .ok (.lstore_n 2, 1) := by decide +kernel
theorem d1_20 : decode jdk_2323_method_8_code 20 = .ok (.lconst 0, 1) := by decide +kernel
theorem d1_21 : decode jdk_2323_method_8_code 21 = .ok (.lstore 4, 2) := by decide +kernel
theorem d1_23 : decode jdk_2323_method_8_code 23 = .ok (.lload_n 2, 1) := by decide +kernel
theorem d1_24 : decode jdk_2323_method_8_code 24 = .ok (.lconst 0, 1) := by decide +kernel
theorem d1_25 : decode jdk_2323_method_8_code 25 = .ok (.lcmp, 1) := by decide +kernel
theorem d1_26 : decode jdk_2323_method_8_code 26 = .ok (.ifCond .ge 32, 3) := by decide +kernel
theorem d1_29 : decode jdk_2323_method_8_code 29 = .ok (.lload_n 2, 1) := by decide +kernel
theorem d1_30 : decode jdk_2323_method_8_code 30 = .ok (.lconst 1, 1) := by decide +kernel
theorem d1_31 : decode jdk_2323_method_8_code 31 = .ok (.ladd, 1) := by decide +kernel
theorem d1_32 : decode jdk_2323_method_8_code 32 = .ok (.ldc2_w 168, 3) := by decide +kernel
theorem d1_35 : decode jdk_2323_method_8_code 35 = .ok (.ldiv, 1) := by decide +kernel
theorem d1_36 : decode jdk_2323_method_8_code 36 = .ok (.lconst 1, 1) := by decide +kernel
theorem d1_37 : decode jdk_2323_method_8_code 37 = .ok (.lsub, 1) := by decide +kernel
theorem d1_38 : decode jdk_2323_method_8_code 38 = .ok (.lstore 6, 2) := by decide +kernel
theorem d1_40 : decode jdk_2323_method_8_code 40 = .ok (.lload 6, 2) := by decide +kernel
theorem d1_42 : decode jdk_2323_method_8_code 42 = .ok (.ldc2_w 170, 3) := by decide +kernel
theorem d1_45 : decode jdk_2323_method_8_code 45 = .ok (.lmul, 1) := by decide +kernel
theorem d1_46 : decode jdk_2323_method_8_code 46 = .ok (.lstore 4, 2) := by decide +kernel
theorem d1_48 : decode jdk_2323_method_8_code 48 = .ok (.lload_n 2, 1) := by decide +kernel
theorem d1_49 : decode jdk_2323_method_8_code 49 = .ok (.lload 6, 2) := by decide +kernel
theorem d1_51 : decode jdk_2323_method_8_code 51 = .ok (.lneg, 1) := by decide +kernel
theorem d1_52 : decode jdk_2323_method_8_code 52 = .ok (.ldc2_w 168, 3) := by decide +kernel
theorem d1_55 : decode jdk_2323_method_8_code 55 = .ok (.lmul, 1) := by decide +kernel
theorem d1_56 : decode jdk_2323_method_8_code 56 = .ok (.ladd, 1) := by decide +kernel
theorem d1_57 : decode jdk_2323_method_8_code 57 = .ok (.lstore_n 2, 1) := by decide +kernel
theorem d1_58 : decode jdk_2323_method_8_code 58 = .ok (.ldc2_w 170, 3) := by decide +kernel
theorem d1_61 : decode jdk_2323_method_8_code 61 = .ok (.lload_n 2, 1) := by decide +kernel
theorem d1_62 : decode jdk_2323_method_8_code 62 = .ok (.lmul, 1) := by decide +kernel
theorem d1_63 : decode jdk_2323_method_8_code 63 = .ok (.ldc2_w 172, 3) := by decide +kernel
theorem d1_66 : decode jdk_2323_method_8_code 66 = .ok (.ladd, 1) := by decide +kernel
theorem d1_67 : decode jdk_2323_method_8_code 67 = .ok (.ldc2_w 168, 3) := by decide +kernel
theorem d1_70 : decode jdk_2323_method_8_code 70 = .ok (.ldiv, 1) := by decide +kernel
theorem d1_71 : decode jdk_2323_method_8_code 71 = .ok (.lstore 6, 2) := by decide +kernel
theorem d1_73 : decode jdk_2323_method_8_code 73 = .ok (.lload_n 2, 1) := by decide +kernel
theorem d1_74 : decode jdk_2323_method_8_code 74 = .ok (.ldc2_w 174, 3) := by decide +kernel
theorem d1_77 : decode jdk_2323_method_8_code 77 = .ok (.lload 6, 2) := by decide +kernel
theorem d1_79 : decode jdk_2323_method_8_code 79 = .ok (.lmul, 1) := by decide +kernel
theorem d1_80 : decode jdk_2323_method_8_code 80 = .ok (.lload 6, 2) := by decide +kernel
theorem d1_82 : decode jdk_2323_method_8_code 82 = .ok (.ldc2_w 176, 3) := by decide +kernel
theorem d1_85 : decode jdk_2323_method_8_code 85 = .ok (.ldiv, 1) := by decide +kernel
theorem d1_86 : decode jdk_2323_method_8_code 86 = .ok (.ladd, 1) := by decide +kernel
theorem d1_87 : decode jdk_2323_method_8_code 87 = .ok (.lload 6, 2) := by decide +kernel
theorem d1_89 : decode jdk_2323_method_8_code 89 = .ok (.ldc2_w 178, 3) := by decide +kernel
theorem d1_92 : decode jdk_2323_method_8_code 92 = .ok (.ldiv, 1) := by decide +kernel
theorem d1_93 : decode jdk_2323_method_8_code 93 = .ok (.lsub, 1) := by decide +kernel
theorem d1_94 : decode jdk_2323_method_8_code 94 = .ok (.lload 6, 2) := by decide +kernel
theorem d1_96 : decode jdk_2323_method_8_code 96 = .ok (.ldc2_w 170, 3) := by decide +kernel
theorem d1_99 : decode jdk_2323_method_8_code 99 = .ok (.ldiv, 1) := by decide +kernel
theorem d1_100 : decode jdk_2323_method_8_code 100 = .ok (.ladd, 1) := by decide +kernel
theorem d1_101 : decode jdk_2323_method_8_code 101 = .ok (.lsub, 1) := by decide +kernel
theorem d1_102 : decode jdk_2323_method_8_code 102 = .ok (.lstore 8, 2) := by decide +kernel
theorem d1_104 : decode jdk_2323_method_8_code 104 = .ok (.lload 8, 2) := by decide +kernel
theorem d1_106 : decode jdk_2323_method_8_code 106 = .ok (.lconst 0, 1) := by decide +kernel
theorem d1_107 : decode jdk_2323_method_8_code 107 = .ok (.lcmp, 1) := by decide +kernel
theorem d1_108 : decode jdk_2323_method_8_code 108 = .ok (.ifCond .ge 40, 3) := by decide +kernel
theorem d1_111 : decode jdk_2323_method_8_code 111 = .ok (.lload 6, 2) := by decide +kernel
theorem d1_113 : decode jdk_2323_method_8_code 113 = .ok (.lconst 1, 1) := by decide +kernel
theorem d1_114 : decode jdk_2323_method_8_code 114 = .ok (.lsub, 1) := by decide +kernel
theorem d1_115 : decode jdk_2323_method_8_code 115 = .ok (.lstore 6, 2) := by decide +kernel
theorem d1_117 : decode jdk_2323_method_8_code 117 = .ok (.lload_n 2, 1) := by decide +kernel
theorem d1_118 : decode jdk_2323_method_8_code 118 = .ok (.ldc2_w 174, 3) := by decide +kernel
theorem d1_121 : decode jdk_2323_method_8_code 121 = .ok (.lload 6, 2) := by decide +kernel
theorem d1_123 : decode jdk_2323_method_8_code 123 = .ok (.lmul, 1) := by decide +kernel
theorem d1_124 : decode jdk_2323_method_8_code 124 = .ok (.lload 6, 2) := by decide +kernel
theorem d1_126 : decode jdk_2323_method_8_code 126 = .ok (.ldc2_w 176, 3) := by decide +kernel
theorem d1_129 : decode jdk_2323_method_8_code 129 = .ok (.ldiv, 1) := by decide +kernel
theorem d1_130 : decode jdk_2323_method_8_code 130 = .ok (.ladd, 1) := by decide +kernel
theorem d1_131 : decode jdk_2323_method_8_code 131 = .ok (.lload 6, 2) := by decide +kernel
theorem d1_133 : decode jdk_2323_method_8_code 133 = .ok (.ldc2_w 178, 3) := by decide +kernel
theorem d1_136 : decode jdk_2323_method_8_code 136 = .ok (.ldiv, 1) := by decide +kernel
theorem d1_137 : decode jdk_2323_method_8_code 137 = .ok (.lsub, 1) := by decide +kernel
theorem d1_138 : decode jdk_2323_method_8_code 138 = .ok (.lload 6, 2) := by decide +kernel
theorem d1_140 : decode jdk_2323_method_8_code 140 = .ok (.ldc2_w 170, 3) := by decide +kernel
theorem d1_143 : decode jdk_2323_method_8_code 143 = .ok (.ldiv, 1) := by decide +kernel
theorem d1_144 : decode jdk_2323_method_8_code 144 = .ok (.ladd, 1) := by decide +kernel
theorem d1_145 : decode jdk_2323_method_8_code 145 = .ok (.lsub, 1) := by decide +kernel
theorem d1_146 : decode jdk_2323_method_8_code 146 = .ok (.lstore 8, 2) := by decide +kernel
theorem own_ef_ofEpoch (m : MethodId) (x0 : Int64) : entryFrame m #[(.long x0)] 14 = mkF m 0 #[.val (.long x0), .second, .unset, .unset, .unset, .unset, .unset, .unset, .unset, .unset, .unset, .unset, .unset, .unset] [] := by first | (simp [entryFrame, mkF, argsToLocals, Value.category]; done) | rfl
def Q_ofEpoch (Z : State) (q : Int64) (fd rg : Addr) (h0 : Heap) (n0 : Nat) (v : Option Value) (h : Heap) (L : List Loc) : Prop := ∃ r, v = some (.ref r) ∧ Fr n0 L ∧ Keep h0 h [] ∧ h0.size ≤ r ∧ Exa Z h r "java/time/LocalDate"
set_option maxRecDepth 65536 in
set_option maxHeartbeats 40000000 in
theorem rm_ofEpoch (l : Launch) (Z : State) (a0 : Array Value) (hw : ∀ d ∈ tables_1, d.before a0 Z = true) (ws : List Jvm.Cond) (q : Int64) (fd rg : Addr) (h0 : Heap) (n0 : Nat) (Z0 : n0 ≤ h0.size) (O : Old Z n0 h0) (hE : own_EP Z fd rg) (hlo : ¬ q < (-365243219162 : Int64)) (hhi : ¬ (365241780471 : Int64) < q) :
    MetFree l (⟨"java/time/LocalDate", "ofEpochDay", "(J)Ljava/time/LocalDate;"⟩ : MethodName) (head1 (Jvm.Cond.code (⟨"java/time/LocalDate", "ofEpochDay", "(J)Ljava/time/LocalDate;"⟩ : MethodName) jdk_2323_method_8_code 14 (some (.object "java/time/LocalDate")) :: ws) ({ frames := 4, cells := 1, slots := 3, locals := 57 } : Room)) (fun a U => a = #[(.long q)] ∧ Z.Warmed39 U.vm ∧ U.heap = h0) (fun _ _ _ _ _ => True) (fun _ U o U' => ∃ v L, o = .returned v ∧ Q_ofEpoch Z q fd rg h0 n0 v U'.heap L ∧ FrameEnd U o U' L ({ frames := 4, cells := 1, slots := 3, locals := 57 } : Room).cells ({ frames := 4, cells := 1, slots := 3, locals := 57 } : Room).slots) := by
  refine MetFree.of_bodySF (plainFor_of_name own_pn_java_time_LocalDate) hisR ?_
  intro p e s m args below meth c s₁ Bd hml0 hP hK
  obtain ⟨rfl, hZ, hh⟩ := hP
  have hx := Bd.exec
  have hby := Bd.bytes
  have hml : c.maxLocals = 14 := hml0
  have hown : s.vm.findClass "java/time/LocalDate" = some m.cls := findClass_of_methodNamed Bd.named
  have hnm := (name_of_methodNamed Bd.named Bd.method).1
  have X0 : Stand p l e ({ frames := 4, cells := 1, slots := 3, locals := 57 } : Room) s m #[(.long q)] below meth c s₁ [] 0 0 := Stand.of_body Bd
  have e0 : s₁.heap = h0 := by rw [← hh, Bd.state]; rfl
  have N0 := Fr.nil n0
  refine own_start (F0 := fun o U' => ∃ v L, o = .returned v ∧ Q_ofEpoch Z q fd rg h0 n0 v U'.heap L ∧ FrameEnd s o U' L ({ frames := 4, cells := 1, slots := 3, locals := 57 } : Room).cells ({ frames := 4, cells := 1, slots := 3, locals := 57 } : Room).slots) fun F hF => ?_
  rw [own_ef_ofEpoch m q]
  have K := Keep.refl h0 []
  obtain ⟨S1, E1, F1, E2, F2, F3⟩ := hE
  obtain ⟨T1, X1, e1, st1⟩ := getS2 X0 hx hZ hown (host := "") (Or.inl (hw _ (List.mem_of_getElem? (i := 5) rfl))) Via.refl e0 (S1.ext O.2) (g := (mkF m 0 #[.val (.long q), .second, .unset, .unset, .unset, .unset, .unset, .unset, .unset, .unset, .unset, .unset, .unset, .unset] [])) rfl (hb hby d1_0)
  refine own_st (V := T1.setTop (mkF m 3 #[.val (.long q), .second, .unset, .unset, .unset, .unset, .unset, .unset, .unset, .unset, .unset, .unset, .unset, .unset] [(.ref fd)])) st1 ?_
  refine own_st (V := T1.setTop (mkF m 4 #[.val (.long q), .second, .unset, .unset, .unset, .unset, .unset, .unset, .unset, .unset, .unset, .unset, .unset, .unset] [(.long q), (.ref fd)])) (fun _ hk => XS.lloadN X1.here hx rfl (hb hby d1_3) rfl  hk) ?_
  have E_f := E1.ext O.2
  obtain ⟨cq2, kq2, q2a, q2b, q2c⟩ := isOf hZ e1 E_f
  obtain ⟨_, _, ⟨T2, L2, k2, n2⟩, -, X2, ⟨Lc2, hQ2, l2, y2, z2⟩, st2⟩ := X1.virtualBack hx (y := (⟨"java/time/temporal/ChronoField", "checkValidValue", "(J)J"⟩ : MethodName)) (z := (⟨"java/time/temporal/ChronoField", "checkValidValue", "(J)J"⟩ : MethodName)) hown (mvT hZ (hw _ (List.mem_of_getElem? (i := 7) rfl))) (mvT hZ (hw _ (List.mem_of_getElem? (i := 8) rfl))) (notFace_of_selects (args := #[]) (mvT hZ (hw _ (List.mem_of_getElem? (i := 10) rfl)))) (mvT hZ (hw _ (List.mem_of_getElem? (i := 10) rfl))) (mvT hZ (hw _ (List.mem_of_getElem? (i := 9) rfl))) (by decide) (backOf (W := 0) (rm_cfCheck l Z a0 hw [] fd rg q (-365243219162 : Int64) (365241780471 : Int64) h0 n0 Z0 E_f (F1.ext O.2) (E2.ext O.2) (F2.ext O.2) (F3.ext O.2) hlo hhi) hZ (hw _ (List.mem_of_getElem? (i := 11) rfl)) (hw _ (List.mem_of_getElem? (i := 6) rfl)) (by decide) (by decide)) q2a q2c (g := (mkF m 4 #[.val (.long q), .second, .unset, .unset, .unset, .unset, .unset, .unset, .unset, .unset, .unset, .unset, .unset, .unset] [(.long q), (.ref fd)])) rfl (by rw [hml]; rfl) (Steps.refl _) (argsL := [(.long q)]) (rest := []) (lenOf own_pd4 rfl) rfl (by show 2 * 0 + _ ≤ _; exact Nat.le_of_eq rfl) (hb hby d1_4) (fun _ _ => ⟨rfl, e1, (by decide : 0 + 0 ≤ _), (by decide : 0 + 0 ≤ _)⟩)
  dsimp only [Pt.U, Pt.locs, Pt.cells, Pt.slots] at X2 l2 y2 z2 st2 hQ2
  subst l2 y2 z2
  obtain ⟨rfl, N2q, es2⟩ := hQ2
  have N2 := Fr.app N0 N2q
  refine own_tr (V := T2.setTop (mkF m 7 #[.val (.long q), .second, .unset, .unset, .unset, .unset, .unset, .unset, .unset, .unset, .unset, .unset, .unset, .unset] [(.long q)])) st2 ?_
  have J220 : ∀ (t2 : Int64) (t4 : Int64) (t6 : Int64) (t8 : Int64) (i10 : Int32) (i11 : Int32) (i12 : Int32) (i13 : Int32), own_G p e below F (T2.setTop (mkF m 220 #[.val (.long q), .second, .val (.long t2), .second, .val (.long t4), .second, .val (.long t6), .second, .val (.long t8), .second, .val (.int i10), .val (.int i11), .val (.int i12), .val (.int i13)] [])) := by
    intro t2 t4 t6 t8 i10 i11 i12 i13
    obtain ⟨T3, h3, X3, e3, E3, A3, D3, -, st3⟩ := newO X2 hx hZ hown (hw _ (List.mem_of_getElem? (i := 52) rfl)) (hw _ (List.mem_of_getElem? (i := 53) rfl)) (hw _ (List.mem_of_getElem? (i := 3) rfl)) es2 (g := (mkF m 220 #[.val (.long q), .second, .val (.long t2), .second, .val (.long t4), .second, .val (.long t6), .second, .val (.long t8), .second, .val (.int i10), .val (.int i11), .val (.int i12), .val (.int i13)] [])) rfl (hb hby d1_220) (by decide) (by decide)
    obtain ⟨b3, g3⟩ : ∃ z, z = h0.size := ⟨_, rfl⟩
    rw [← g3] at A3 D3 st3
    have g_b3 : n0 ≤ b3 := Nat.le_trans Z0 (Nat.le_of_eq g3.symm)
    have sz_b3 : h0.size ≤ b3 := Nat.le_trans K.1 (Nat.le_of_eq g3.symm)
    have O := O.ext E3
    have K := K.ext E3
    have Z0 : n0 ≤ h3.size := Nat.le_trans Z0 E3.1
    have E_b3 := A3
    have F_year_b3 : Fld Z h3 b3 "java/time/LocalDate" "year" "I" (.int (0 : Int32)) := D3 (Or.inr (hw _ (List.mem_of_getElem? (i := 62) rfl))) (ty := .int) (by decide)
    have F_month_b3 : Fld Z h3 b3 "java/time/LocalDate" "month" "S" (.int (0 : Int32)) := D3 (Or.inr (hw _ (List.mem_of_getElem? (i := 64) rfl))) (ty := .short) (by decide)
    have F_day_b3 : Fld Z h3 b3 "java/time/LocalDate" "day" "S" (.int (0 : Int32)) := D3 (Or.inr (hw _ (List.mem_of_getElem? (i := 66) rfl))) (ty := .short) (by decide)
    refine own_st (V := T3.setTop (mkF m 223 #[.val (.long q), .second, .val (.long t2), .second, .val (.long t4), .second, .val (.long t6), .second, .val (.long t8), .second, .val (.int i10), .val (.int i11), .val (.int i12), .val (.int i13)] [(.ref b3)])) st3 ?_
    refine own_st (V := T3.setTop (mkF m 224 #[.val (.long q), .second, .val (.long t2), .second, .val (.long t4), .second, .val (.long t6), .second, .val (.long t8), .second, .val (.int i10), .val (.int i11), .val (.int i12), .val (.int i13)] [(.ref b3), (.ref b3)])) (fun _ hk => XS.dup X3.here hx rfl (hb hby d1_223) rfl rfl hk) ?_
    refine own_st (V := T3.setTop (mkF m 226 #[.val (.long q), .second, .val (.long t2), .second, .val (.long t4), .second, .val (.long t6), .second, .val (.long t8), .second, .val (.int i10), .val (.int i11), .val (.int i12), .val (.int i13)] [(.long t6), (.ref b3), (.ref b3)])) (fun _ hk => XS.lload X3.here hx rfl (hb hby d1_224) rfl  hk) ?_
    refine own_st (V := T3.setTop (mkF m 227 #[.val (.long q), .second, .val (.long t2), .second, .val (.long t4), .second, .val (.long t6), .second, .val (.long t8), .second, .val (.int i10), .val (.int i11), .val (.int i12), .val (.int i13)] [(.int (t6.toInt32)), (.ref b3), (.ref b3)])) (fun _ hk => XS.l2i X3.here hx rfl (hb hby d1_226) rfl hk) ?_
    refine own_st (V := T3.setTop (mkF m 229 #[.val (.long q), .second, .val (.long t2), .second, .val (.long t4), .second, .val (.long t6), .second, .val (.long t8), .second, .val (.int i10), .val (.int i11), .val (.int i12), .val (.int i13)] [(.int i12), (.int (t6.toInt32)), (.ref b3), (.ref b3)])) (fun _ hk => XS.iload X3.here hx rfl (hb hby d1_227) rfl  hk) ?_
    refine own_st (V := T3.setTop (mkF m 231 #[.val (.long q), .second, .val (.long t2), .second, .val (.long t4), .second, .val (.long t6), .second, .val (.long t8), .second, .val (.int i10), .val (.int i11), .val (.int i12), .val (.int i13)] [(.int i13), (.int i12), (.int (t6.toInt32)), (.ref b3), (.ref b3)])) (fun _ hk => XS.iload X3.here hx rfl (hb hby d1_229) rfl  hk) ?_
    obtain ⟨_, _, ⟨T4, L4, k4, n4⟩, -, X4, ⟨Lc4, hQ4, l4, y4, z4⟩, st4⟩ := X3.specialBack hx (y := (⟨"java/time/LocalDate", "<init>", "(III)V"⟩ : MethodName)) rfl hown (mvT hZ (hw _ (List.mem_of_getElem? (i := 54) rfl))) (mvT hZ (hw _ (List.mem_of_getElem? (i := 55) rfl))) (mvT hZ (hw _ (List.mem_of_getElem? (i := 57) rfl))) (by decide) (backOf (W := 1) (rm_ldInit l Z a0 hw [] b3 (t6.toInt32) i12 i13 _ _ _ h3 n0 Z0 E_b3 F_year_b3 F_month_b3 F_day_b3 g_b3) hZ (hw _ (List.mem_of_getElem? (i := 57) rfl)) (hw _ (List.mem_of_getElem? (i := 3) rfl)) (by decide) (by decide)) (g := (mkF m 231 #[.val (.long q), .second, .val (.long t2), .second, .val (.long t4), .second, .val (.long t6), .second, .val (.long t8), .second, .val (.int i10), .val (.int i11), .val (.int i12), .val (.int i13)] [(.int i13), (.int i12), (.int (t6.toInt32)), (.ref b3), (.ref b3)])) rfl (by rw [hml]; rfl) (Steps.refl _) (a := b3) (argsL := [(.int (t6.toInt32)), (.int i12), (.int i13)]) (rest := [(.ref b3)]) (lenOf own_pd5 rfl) rfl (by show 2 * 0 + _ ≤ _; exact Nat.le_of_eq rfl) (hb hby d1_231) (fun _ _ => ⟨rfl, e3, (by decide : 1 + 0 ≤ _), (by decide : 3 + 0 ≤ _)⟩)
    dsimp only [Pt.U, Pt.locs, Pt.cells, Pt.slots] at X4 l4 y4 z4 st4 hQ4
    subst l4 y4 z4
    obtain ⟨rfl, N4q, Kc⟩ := hQ4
    have N4 := Fr.app N2 N4q
    refine own_tr (V := T4.setTop (mkF m 234 #[.val (.long q), .second, .val (.long t2), .second, .val (.long t4), .second, .val (.long t6), .second, .val (.long t8), .second, .val (.int i10), .val (.int i11), .val (.int i12), .val (.int i13)] [(.ref b3)])) st4 ?_
    have E_b3 := E_b3.keep Kc
    have Z0 : n0 ≤ T4.heap.size := Nat.le_trans Z0 Kc.1
    have O := O.keep Kc (allS g_b3 all0)
    have K := K.trans Kc (allS (Or.inr sz_b3) all0)
    exact own_retA X4 hx Bd.notSynchronized Bd.returns rfl rfl (hb hby d1_234) (by decide) (by decide) (fun U hU hE => hF _ _ ⟨_, _, rfl, (by rw [hU]; exact ⟨_, rfl, N4, K, sz_b3, E_b3⟩), hE⟩)
  have J188 : ∀ (t2 : Int64) (t4 : Int64) (t6 : Int64) (t8 : Int64) (i10 : Int32) (i11 : Int32) (i12 : Int32), own_G p e below F (T2.setTop (mkF m 188 #[.val (.long q), .second, .val (.long t2), .second, .val (.long t4), .second, .val (.long t6), .second, .val (.long t8), .second, .val (.int i10), .val (.int i11), .val (.int i12), .unset] [])) := by
    intro t2 t4 t6 t8 i10 i11 i12
    refine own_st (V := T2.setTop (mkF m 190 #[.val (.long q), .second, .val (.long t2), .second, .val (.long t4), .second, .val (.long t6), .second, .val (.long t8), .second, .val (.int i10), .val (.int i11), .val (.int i12), .unset] [(.int i10)])) (fun _ hk => XS.iload X2.here hx rfl (hb hby d1_188) rfl  hk) ?_
    refine own_st (V := T2.setTop (mkF m 192 #[.val (.long q), .second, .val (.long t2), .second, .val (.long t4), .second, .val (.long t6), .second, .val (.long t8), .second, .val (.int i10), .val (.int i11), .val (.int i12), .unset] [(.int i11), (.int i10)])) (fun _ hk => XS.iload X2.here hx rfl (hb hby d1_190) rfl  hk) ?_
    refine own_st (V := T2.setTop (mkF m 195 #[.val (.long q), .second, .val (.long t2), .second, .val (.long t4), .second, .val (.long t6), .second, .val (.long t8), .second, .val (.int i10), .val (.int i11), .val (.int i12), .unset] [(.int (306 : Int32)), (.int i11), (.int i10)])) (fun _ hk => XS.sipush X2.here hx rfl (hb hby d1_192) hk) ?_
    refine own_st (V := T2.setTop (mkF m 196 #[.val (.long q), .second, .val (.long t2), .second, .val (.long t4), .second, .val (.long t6), .second, .val (.long t8), .second, .val (.int i10), .val (.int i11), .val (.int i12), .unset] [(.int (i11 * (306 : Int32))), (.int i10)])) (fun _ hk => XS.imul X2.here hx rfl (hb hby d1_195) rfl hk) ?_
    refine own_st (V := T2.setTop (mkF m 197 #[.val (.long q), .second, .val (.long t2), .second, .val (.long t4), .second, .val (.long t6), .second, .val (.long t8), .second, .val (.int i10), .val (.int i11), .val (.int i12), .unset] [(.int (5 : Int32)), (.int (i11 * (306 : Int32))), (.int i10)])) (fun _ hk => XS.iconst X2.here hx rfl (hb hby d1_196) hk) ?_
    refine own_st (V := T2.setTop (mkF m 198 #[.val (.long q), .second, .val (.long t2), .second, .val (.long t4), .second, .val (.long t6), .second, .val (.long t8), .second, .val (.int i10), .val (.int i11), .val (.int i12), .unset] [(.int ((i11 * (306 : Int32)) + (5 : Int32))), (.int i10)])) (fun _ hk => XS.iadd X2.here hx rfl (hb hby d1_197) rfl hk) ?_
    refine own_st (V := T2.setTop (mkF m 200 #[.val (.long q), .second, .val (.long t2), .second, .val (.long t4), .second, .val (.long t6), .second, .val (.long t8), .second, .val (.int i10), .val (.int i11), .val (.int i12), .unset] [(.int (10 : Int32)), (.int ((i11 * (306 : Int32)) + (5 : Int32))), (.int i10)])) (fun _ hk => XS.bipush X2.here hx rfl (hb hby d1_198) hk) ?_
    refine own_st (V := T2.setTop (mkF m 201 #[.val (.long q), .second, .val (.long t2), .second, .val (.long t4), .second, .val (.long t6), .second, .val (.long t8), .second, .val (.int i10), .val (.int i11), .val (.int i12), .unset] [(.int (((i11 * (306 : Int32)) + (5 : Int32)) / (10 : Int32))), (.int i10)])) (fun _ hk => XS.idiv X2.here hx rfl (hb hby d1_200) rfl (by decide) hk) ?_
    refine own_st (V := T2.setTop (mkF m 202 #[.val (.long q), .second, .val (.long t2), .second, .val (.long t4), .second, .val (.long t6), .second, .val (.long t8), .second, .val (.int i10), .val (.int i11), .val (.int i12), .unset] [(.int (i10 - (((i11 * (306 : Int32)) + (5 : Int32)) / (10 : Int32))))])) (fun _ hk => XS.isub X2.here hx rfl (hb hby d1_201) rfl hk) ?_
    refine own_st (V := T2.setTop (mkF m 203 #[.val (.long q), .second, .val (.long t2), .second, .val (.long t4), .second, .val (.long t6), .second, .val (.long t8), .second, .val (.int i10), .val (.int i11), .val (.int i12), .unset] [(.int (1 : Int32)), (.int (i10 - (((i11 * (306 : Int32)) + (5 : Int32)) / (10 : Int32))))])) (fun _ hk => XS.iconst X2.here hx rfl (hb hby d1_202) hk) ?_
    refine own_st (V := T2.setTop (mkF m 204 #[.val (.long q), .second, .val (.long t2), .second, .val (.long t4), .second, .val (.long t6), .second, .val (.long t8), .second, .val (.int i10), .val (.int i11), .val (.int i12), .unset] [(.int ((i10 - (((i11 * (306 : Int32)) + (5 : Int32)) / (10 : Int32))) + (1 : Int32)))])) (fun _ hk => XS.iadd X2.here hx rfl (hb hby d1_203) rfl hk) ?_
    refine own_st (V := T2.setTop (mkF m 206 #[.val (.long q), .second, .val (.long t2), .second, .val (.long t4), .second, .val (.long t6), .second, .val (.long t8), .second, .val (.int i10), .val (.int i11), .val (.int i12), .val (.int ((i10 - (((i11 * (306 : Int32)) + (5 : Int32)) / (10 : Int32))) + (1 : Int32)))] [])) (fun _ hk => XS.istore X2.here hx rfl (hb hby d1_204) rfl  (l' := #[.val (.long q), .second, .val (.long t2), .second, .val (.long t4), .second, .val (.long t6), .second, .val (.long t8), .second, .val (.int i10), .val (.int i11), .val (.int i12), .val (.int ((i10 - (((i11 * (306 : Int32)) + (5 : Int32)) / (10 : Int32))) + (1 : Int32)))]) rfl hk) ?_
    refine own_st (V := T2.setTop (mkF m 208 #[.val (.long q), .second, .val (.long t2), .second, .val (.long t4), .second, .val (.long t6), .second, .val (.long t8), .second, .val (.int i10), .val (.int i11), .val (.int i12), .val (.int ((i10 - (((i11 * (306 : Int32)) + (5 : Int32)) / (10 : Int32))) + (1 : Int32)))] [(.int i10)])) (fun _ hk => XS.iload X2.here hx rfl (hb hby d1_206) rfl  hk) ?_
    refine own_st (V := T2.setTop (mkF m 211 #[.val (.long q), .second, .val (.long t2), .second, .val (.long t4), .second, .val (.long t6), .second, .val (.long t8), .second, .val (.int i10), .val (.int i11), .val (.int i12), .val (.int ((i10 - (((i11 * (306 : Int32)) + (5 : Int32)) / (10 : Int32))) + (1 : Int32)))] [(.int (306 : Int32)), (.int i10)])) (fun _ hk => XS.sipush X2.here hx rfl (hb hby d1_208) hk) ?_
    by_cases hc211 : i10 < (306 : Int32)
    · skip
      refine own_st (V := T2.setTop (mkF m 220 #[.val (.long q), .second, .val (.long t2), .second, .val (.long t4), .second, .val (.long t6), .second, .val (.long t8), .second, .val (.int i10), .val (.int i11), .val (.int i12), .val (.int ((i10 - (((i11 * (306 : Int32)) + (5 : Int32)) / (10 : Int32))) + (1 : Int32)))] [])) (fun _ hk => XS.icmpYes X2.here hx rfl (pc0 := 211) (pc' := 220) rfl (hb hby d1_211) rfl (tlt (show i10 < (306 : Int32) from hc211)).1 (by decide) (by decide) hk) ?_
      exact J220 _ _ _ _ _ _ _ _
    · skip
      refine own_st (V := T2.setTop (mkF m 214 #[.val (.long q), .second, .val (.long t2), .second, .val (.long t4), .second, .val (.long t6), .second, .val (.long t8), .second, .val (.int i10), .val (.int i11), .val (.int i12), .val (.int ((i10 - (((i11 * (306 : Int32)) + (5 : Int32)) / (10 : Int32))) + (1 : Int32)))] [])) (fun _ hk => XS.icmpNo X2.here hx rfl (hb hby d1_211) rfl (flt (show ¬ (i10 < (306 : Int32)) from hc211)).1 hk) ?_
      refine own_st (V := T2.setTop (mkF m 216 #[.val (.long q), .second, .val (.long t2), .second, .val (.long t4), .second, .val (.long t6), .second, .val (.long t8), .second, .val (.int i10), .val (.int i11), .val (.int i12), .val (.int ((i10 - (((i11 * (306 : Int32)) + (5 : Int32)) / (10 : Int32))) + (1 : Int32)))] [(.long t6)])) (fun _ hk => XS.lload X2.here hx rfl (hb hby d1_214) rfl  hk) ?_
      refine own_st (V := T2.setTop (mkF m 217 #[.val (.long q), .second, .val (.long t2), .second, .val (.long t4), .second, .val (.long t6), .second, .val (.long t8), .second, .val (.int i10), .val (.int i11), .val (.int i12), .val (.int ((i10 - (((i11 * (306 : Int32)) + (5 : Int32)) / (10 : Int32))) + (1 : Int32)))] [(.long (1 : Int64)), (.long t6)])) (fun _ hk => XS.lconst X2.here hx rfl (hb hby d1_216) hk) ?_
      refine own_st (V := T2.setTop (mkF m 218 #[.val (.long q), .second, .val (.long t2), .second, .val (.long t4), .second, .val (.long t6), .second, .val (.long t8), .second, .val (.int i10), .val (.int i11), .val (.int i12), .val (.int ((i10 - (((i11 * (306 : Int32)) + (5 : Int32)) / (10 : Int32))) + (1 : Int32)))] [(.long (t6 + (1 : Int64)))])) (fun _ hk => XS.ladd X2.here hx rfl (hb hby d1_217) rfl hk) ?_
      refine own_st (V := T2.setTop (mkF m 220 #[.val (.long q), .second, .val (.long t2), .second, .val (.long t4), .second, .val (.long (t6 + (1 : Int64))), .second, .val (.long t8), .second, .val (.int i10), .val (.int i11), .val (.int i12), .val (.int ((i10 - (((i11 * (306 : Int32)) + (5 : Int32)) / (10 : Int32))) + (1 : Int32)))] [])) (fun _ hk => XS.lstore X2.here hx rfl (hb hby d1_218) rfl  (l' := #[.val (.long q), .second, .val (.long t2), .second, .val (.long t4), .second, .val (.long (t6 + (1 : Int64))), .second, .val (.long t8), .second, .val (.int i10), .val (.int i11), .val (.int i12), .val (.int ((i10 - (((i11 * (306 : Int32)) + (5 : Int32)) / (10 : Int32))) + (1 : Int32)))]) rfl hk) ?_
      exact J220 _ _ _ _ _ _ _ _
  have J148 : ∀ (t2 : Int64) (t4 : Int64) (t6 : Int64) (t8 : Int64), own_G p e below F (T2.setTop (mkF m 148 #[.val (.long q), .second, .val (.long t2), .second, .val (.long t4), .second, .val (.long t6), .second, .val (.long t8), .second, .unset, .unset, .unset, .unset] [])) := by
    intro t2 t4 t6 t8
    refine own_st (V := T2.setTop (mkF m 150 #[.val (.long q), .second, .val (.long t2), .second, .val (.long t4), .second, .val (.long t6), .second, .val (.long t8), .second, .unset, .unset, .unset, .unset] [(.long t6)])) (fun _ hk => XS.lload X2.here hx rfl (hb hby d1_148) rfl  hk) ?_
    refine own_st (V := T2.setTop (mkF m 152 #[.val (.long q), .second, .val (.long t2), .second, .val (.long t4), .second, .val (.long t6), .second, .val (.long t8), .second, .unset, .unset, .unset, .unset] [(.long t4), (.long t6)])) (fun _ hk => XS.lload X2.here hx rfl (hb hby d1_150) rfl  hk) ?_
    refine own_st (V := T2.setTop (mkF m 153 #[.val (.long q), .second, .val (.long t2), .second, .val (.long t4), .second, .val (.long t6), .second, .val (.long t8), .second, .unset, .unset, .unset, .unset] [(.long (t6 + t4))])) (fun _ hk => XS.ladd X2.here hx rfl (hb hby d1_152) rfl hk) ?_
    refine own_st (V := T2.setTop (mkF m 155 #[.val (.long q), .second, .val (.long t2), .second, .val (.long t4), .second, .val (.long (t6 + t4)), .second, .val (.long t8), .second, .unset, .unset, .unset, .unset] [])) (fun _ hk => XS.lstore X2.here hx rfl (hb hby d1_153) rfl  (l' := #[.val (.long q), .second, .val (.long t2), .second, .val (.long t4), .second, .val (.long (t6 + t4)), .second, .val (.long t8), .second, .unset, .unset, .unset, .unset]) rfl hk) ?_
    refine own_st (V := T2.setTop (mkF m 157 #[.val (.long q), .second, .val (.long t2), .second, .val (.long t4), .second, .val (.long (t6 + t4)), .second, .val (.long t8), .second, .unset, .unset, .unset, .unset] [(.long t8)])) (fun _ hk => XS.lload X2.here hx rfl (hb hby d1_155) rfl  hk) ?_
    refine own_st (V := T2.setTop (mkF m 158 #[.val (.long q), .second, .val (.long t2), .second, .val (.long t4), .second, .val (.long (t6 + t4)), .second, .val (.long t8), .second, .unset, .unset, .unset, .unset] [(.int (t8.toInt32))])) (fun _ hk => XS.l2i X2.here hx rfl (hb hby d1_157) rfl hk) ?_
    refine own_st (V := T2.setTop (mkF m 160 #[.val (.long q), .second, .val (.long t2), .second, .val (.long t4), .second, .val (.long (t6 + t4)), .second, .val (.long t8), .second, .val (.int (t8.toInt32)), .unset, .unset, .unset] [])) (fun _ hk => XS.istore X2.here hx rfl (hb hby d1_158) rfl  (l' := #[.val (.long q), .second, .val (.long t2), .second, .val (.long t4), .second, .val (.long (t6 + t4)), .second, .val (.long t8), .second, .val (.int (t8.toInt32)), .unset, .unset, .unset]) rfl hk) ?_
    refine own_st (V := T2.setTop (mkF m 162 #[.val (.long q), .second, .val (.long t2), .second, .val (.long t4), .second, .val (.long (t6 + t4)), .second, .val (.long t8), .second, .val (.int (t8.toInt32)), .unset, .unset, .unset] [(.int (t8.toInt32))])) (fun _ hk => XS.iload X2.here hx rfl (hb hby d1_160) rfl  hk) ?_
    refine own_st (V := T2.setTop (mkF m 163 #[.val (.long q), .second, .val (.long t2), .second, .val (.long t4), .second, .val (.long (t6 + t4)), .second, .val (.long t8), .second, .val (.int (t8.toInt32)), .unset, .unset, .unset] [(.int (5 : Int32)), (.int (t8.toInt32))])) (fun _ hk => XS.iconst X2.here hx rfl (hb hby d1_162) hk) ?_
    refine own_st (V := T2.setTop (mkF m 164 #[.val (.long q), .second, .val (.long t2), .second, .val (.long t4), .second, .val (.long (t6 + t4)), .second, .val (.long t8), .second, .val (.int (t8.toInt32)), .unset, .unset, .unset] [(.int ((t8.toInt32) * (5 : Int32)))])) (fun _ hk => XS.imul X2.here hx rfl (hb hby d1_163) rfl hk) ?_
    refine own_st (V := T2.setTop (mkF m 165 #[.val (.long q), .second, .val (.long t2), .second, .val (.long t4), .second, .val (.long (t6 + t4)), .second, .val (.long t8), .second, .val (.int (t8.toInt32)), .unset, .unset, .unset] [(.int (2 : Int32)), (.int ((t8.toInt32) * (5 : Int32)))])) (fun _ hk => XS.iconst X2.here hx rfl (hb hby d1_164) hk) ?_
    refine own_st (V := T2.setTop (mkF m 166 #[.val (.long q), .second, .val (.long t2), .second, .val (.long t4), .second, .val (.long (t6 + t4)), .second, .val (.long t8), .second, .val (.int (t8.toInt32)), .unset, .unset, .unset] [(.int (((t8.toInt32) * (5 : Int32)) + (2 : Int32)))])) (fun _ hk => XS.iadd X2.here hx rfl (hb hby d1_165) rfl hk) ?_
    refine own_st (V := T2.setTop (mkF m 169 #[.val (.long q), .second, .val (.long t2), .second, .val (.long t4), .second, .val (.long (t6 + t4)), .second, .val (.long t8), .second, .val (.int (t8.toInt32)), .unset, .unset, .unset] [(.int (153 : Int32)), (.int (((t8.toInt32) * (5 : Int32)) + (2 : Int32)))])) (fun _ hk => XS.sipush X2.here hx rfl (hb hby d1_166) hk) ?_
    refine own_st (V := T2.setTop (mkF m 170 #[.val (.long q), .second, .val (.long t2), .second, .val (.long t4), .second, .val (.long (t6 + t4)), .second, .val (.long t8), .second, .val (.int (t8.toInt32)), .unset, .unset, .unset] [(.int ((((t8.toInt32) * (5 : Int32)) + (2 : Int32)) / (153 : Int32)))])) (fun _ hk => XS.idiv X2.here hx rfl (hb hby d1_169) rfl (by decide) hk) ?_
    refine own_st (V := T2.setTop (mkF m 172 #[.val (.long q), .second, .val (.long t2), .second, .val (.long t4), .second, .val (.long (t6 + t4)), .second, .val (.long t8), .second, .val (.int (t8.toInt32)), .val (.int ((((t8.toInt32) * (5 : Int32)) + (2 : Int32)) / (153 : Int32))), .unset, .unset] [])) (fun _ hk => XS.istore X2.here hx rfl (hb hby d1_170) rfl  (l' := #[.val (.long q), .second, .val (.long t2), .second, .val (.long t4), .second, .val (.long (t6 + t4)), .second, .val (.long t8), .second, .val (.int (t8.toInt32)), .val (.int ((((t8.toInt32) * (5 : Int32)) + (2 : Int32)) / (153 : Int32))), .unset, .unset]) rfl hk) ?_
    refine own_st (V := T2.setTop (mkF m 174 #[.val (.long q), .second, .val (.long t2), .second, .val (.long t4), .second, .val (.long (t6 + t4)), .second, .val (.long t8), .second, .val (.int (t8.toInt32)), .val (.int ((((t8.toInt32) * (5 : Int32)) + (2 : Int32)) / (153 : Int32))), .unset, .unset] [(.int ((((t8.toInt32) * (5 : Int32)) + (2 : Int32)) / (153 : Int32)))])) (fun _ hk => XS.iload X2.here hx rfl (hb hby d1_172) rfl  hk) ?_
    refine own_st (V := T2.setTop (mkF m 175 #[.val (.long q), .second, .val (.long t2), .second, .val (.long t4), .second, .val (.long (t6 + t4)), .second, .val (.long t8), .second, .val (.int (t8.toInt32)), .val (.int ((((t8.toInt32) * (5 : Int32)) + (2 : Int32)) / (153 : Int32))), .unset, .unset] [(.int (3 : Int32)), (.int ((((t8.toInt32) * (5 : Int32)) + (2 : Int32)) / (153 : Int32)))])) (fun _ hk => XS.iconst X2.here hx rfl (hb hby d1_174) hk) ?_
    refine own_st (V := T2.setTop (mkF m 176 #[.val (.long q), .second, .val (.long t2), .second, .val (.long t4), .second, .val (.long (t6 + t4)), .second, .val (.long t8), .second, .val (.int (t8.toInt32)), .val (.int ((((t8.toInt32) * (5 : Int32)) + (2 : Int32)) / (153 : Int32))), .unset, .unset] [(.int (((((t8.toInt32) * (5 : Int32)) + (2 : Int32)) / (153 : Int32)) + (3 : Int32)))])) (fun _ hk => XS.iadd X2.here hx rfl (hb hby d1_175) rfl hk) ?_
    refine own_st (V := T2.setTop (mkF m 178 #[.val (.long q), .second, .val (.long t2), .second, .val (.long t4), .second, .val (.long (t6 + t4)), .second, .val (.long t8), .second, .val (.int (t8.toInt32)), .val (.int ((((t8.toInt32) * (5 : Int32)) + (2 : Int32)) / (153 : Int32))), .val (.int (((((t8.toInt32) * (5 : Int32)) + (2 : Int32)) / (153 : Int32)) + (3 : Int32))), .unset] [])) (fun _ hk => XS.istore X2.here hx rfl (hb hby d1_176) rfl  (l' := #[.val (.long q), .second, .val (.long t2), .second, .val (.long t4), .second, .val (.long (t6 + t4)), .second, .val (.long t8), .second, .val (.int (t8.toInt32)), .val (.int ((((t8.toInt32) * (5 : Int32)) + (2 : Int32)) / (153 : Int32))), .val (.int (((((t8.toInt32) * (5 : Int32)) + (2 : Int32)) / (153 : Int32)) + (3 : Int32))), .unset]) rfl hk) ?_
    refine own_st (V := T2.setTop (mkF m 180 #[.val (.long q), .second, .val (.long t2), .second, .val (.long t4), .second, .val (.long (t6 + t4)), .second, .val (.long t8), .second, .val (.int (t8.toInt32)), .val (.int ((((t8.toInt32) * (5 : Int32)) + (2 : Int32)) / (153 : Int32))), .val (.int (((((t8.toInt32) * (5 : Int32)) + (2 : Int32)) / (153 : Int32)) + (3 : Int32))), .unset] [(.int (((((t8.toInt32) * (5 : Int32)) + (2 : Int32)) / (153 : Int32)) + (3 : Int32)))])) (fun _ hk => XS.iload X2.here hx rfl (hb hby d1_178) rfl  hk) ?_
    refine own_st (V := T2.setTop (mkF m 182 #[.val (.long q), .second, .val (.long t2), .second, .val (.long t4), .second, .val (.long (t6 + t4)), .second, .val (.long t8), .second, .val (.int (t8.toInt32)), .val (.int ((((t8.toInt32) * (5 : Int32)) + (2 : Int32)) / (153 : Int32))), .val (.int (((((t8.toInt32) * (5 : Int32)) + (2 : Int32)) / (153 : Int32)) + (3 : Int32))), .unset] [(.int (12 : Int32)), (.int (((((t8.toInt32) * (5 : Int32)) + (2 : Int32)) / (153 : Int32)) + (3 : Int32)))])) (fun _ hk => XS.bipush X2.here hx rfl (hb hby d1_180) hk) ?_
    by_cases hc182 : (12 : Int32) < (((((t8.toInt32) * (5 : Int32)) + (2 : Int32)) / (153 : Int32)) + (3 : Int32))
    · skip
      refine own_st (V := T2.setTop (mkF m 185 #[.val (.long q), .second, .val (.long t2), .second, .val (.long t4), .second, .val (.long (t6 + t4)), .second, .val (.long t8), .second, .val (.int (t8.toInt32)), .val (.int ((((t8.toInt32) * (5 : Int32)) + (2 : Int32)) / (153 : Int32))), .val (.int (((((t8.toInt32) * (5 : Int32)) + (2 : Int32)) / (153 : Int32)) + (3 : Int32))), .unset] [])) (fun _ hk => XS.icmpNo X2.here hx rfl (hb hby d1_182) rfl (tlt (show (12 : Int32) < (((((t8.toInt32) * (5 : Int32)) + (2 : Int32)) / (153 : Int32)) + (3 : Int32)) from hc182)).2.2.2 hk) ?_
      refine own_st (V := T2.setTop (mkF m 188 #[.val (.long q), .second, .val (.long t2), .second, .val (.long t4), .second, .val (.long (t6 + t4)), .second, .val (.long t8), .second, .val (.int (t8.toInt32)), .val (.int ((((t8.toInt32) * (5 : Int32)) + (2 : Int32)) / (153 : Int32))), .val (.int ((((((t8.toInt32) * (5 : Int32)) + (2 : Int32)) / (153 : Int32)) + (3 : Int32)) + (-12 : Int32))), .unset] [])) (fun _ hk => XS.iinc X2.here hx rfl (hb hby d1_185) rfl (l' := #[.val (.long q), .second, .val (.long t2), .second, .val (.long t4), .second, .val (.long (t6 + t4)), .second, .val (.long t8), .second, .val (.int (t8.toInt32)), .val (.int ((((t8.toInt32) * (5 : Int32)) + (2 : Int32)) / (153 : Int32))), .val (.int ((((((t8.toInt32) * (5 : Int32)) + (2 : Int32)) / (153 : Int32)) + (3 : Int32)) + (-12 : Int32))), .unset]) rfl hk) ?_
      exact J188 _ _ _ _ _ _ _
    · skip
      refine own_st (V := T2.setTop (mkF m 188 #[.val (.long q), .second, .val (.long t2), .second, .val (.long t4), .second, .val (.long (t6 + t4)), .second, .val (.long t8), .second, .val (.int (t8.toInt32)), .val (.int ((((t8.toInt32) * (5 : Int32)) + (2 : Int32)) / (153 : Int32))), .val (.int (((((t8.toInt32) * (5 : Int32)) + (2 : Int32)) / (153 : Int32)) + (3 : Int32))), .unset] [])) (fun _ hk => XS.icmpYes X2.here hx rfl (pc0 := 182) (pc' := 188) rfl (hb hby d1_182) rfl (flt (show ¬ ((12 : Int32) < (((((t8.toInt32) * (5 : Int32)) + (2 : Int32)) / (153 : Int32)) + (3 : Int32))) from hc182)).2.2.2 (by decide) (by decide) hk) ?_
      exact J188 _ _ _ _ _ _ _
  refine own_st (V := T2.setTop (mkF m 8 #[.val (.long q), .second, .unset, .unset, .unset, .unset, .unset, .unset, .unset, .unset, .unset, .unset, .unset, .unset] [])) (fun _ hk => by jvm_step X2.here [X2.here.top, hx, (hb hby d1_7), Value.category]; exact hk) ?_
  refine own_st (V := T2.setTop (mkF m 9 #[.val (.long q), .second, .unset, .unset, .unset, .unset, .unset, .unset, .unset, .unset, .unset, .unset, .unset, .unset] [(.long q)])) (fun _ hk => XS.lloadN X2.here hx rfl (hb hby d1_8) rfl  hk) ?_
  refine own_st (V := T2.setTop (mkF m 12 #[.val (.long q), .second, .unset, .unset, .unset, .unset, .unset, .unset, .unset, .unset, .unset, .unset, .unset, .unset] [(.long (719528 : Int64)), (.long q)])) (X2.ldc2Long hx hown (mvT hZ (hw _ (List.mem_of_getElem? (i := 44) rfl))) (g := (mkF m 9 #[.val (.long q), .second, .unset, .unset, .unset, .unset, .unset, .unset, .unset, .unset, .unset, .unset, .unset, .unset] [(.long q)])) rfl (hb hby d1_9)) ?_
  refine own_st (V := T2.setTop (mkF m 13 #[.val (.long q), .second, .unset, .unset, .unset, .unset, .unset, .unset, .unset, .unset, .unset, .unset, .unset, .unset] [(.long (q + (719528 : Int64)))])) (fun _ hk => XS.ladd X2.here hx rfl (hb hby d1_12) rfl hk) ?_
  refine own_st (V := T2.setTop (mkF m 14 #[.val (.long q), .second, .val (.long (q + (719528 : Int64))), .second, .unset, .unset, .unset, .unset, .unset, .unset, .unset, .unset, .unset, .unset] [])) (fun _ hk => XS.lstoreN X2.here hx rfl (hb hby d1_13) rfl  (l' := #[.val (.long q), .second, .val (.long (q + (719528 : Int64))), .second, .unset, .unset, .unset, .unset, .unset, .unset, .unset, .unset, .unset, .unset]) rfl hk) ?_
  refine own_st (V := T2.setTop (mkF m 15 #[.val (.long q), .second, .val (.long (q + (719528 : Int64))), .second, .unset, .unset, .unset, .unset, .unset, .unset, .unset, .unset, .unset, .unset] [(.long (q + (719528 : Int64)))])) (fun _ hk => XS.lloadN X2.here hx rfl (hb hby d1_14) rfl  hk) ?_
  refine own_st (V := T2.setTop (mkF m 18 #[.val (.long q), .second, .val (.long (q + (719528 : Int64))), .second, .unset, .unset, .unset, .unset, .unset, .unset, .unset, .unset, .unset, .unset] [(.long (60 : Int64)), (.long (q + (719528 : Int64)))])) (X2.ldc2Long hx hown (mvT hZ (hw _ (List.mem_of_getElem? (i := 45) rfl))) (g := (mkF m 15 #[.val (.long q), .second, .val (.long (q + (719528 : Int64))), .second, .unset, .unset, .unset, .unset, .unset, .unset, .unset, .unset, .unset, .unset] [(.long (q + (719528 : Int64)))])) rfl (hb hby d1_15)) ?_
  refine own_st (V := T2.setTop (mkF m 19 #[.val (.long q), .second, .val (.long (q + (719528 : Int64))), .second, .unset, .unset, .unset, .unset, .unset, .unset, .unset, .unset, .unset, .unset] [(.long ((q + (719528 : Int64)) - (60 : Int64)))])) (fun _ hk => XS.lsub X2.here hx rfl (hb hby d1_18) rfl hk) ?_
  refine own_st (V := T2.setTop (mkF m 20 #[.val (.long q), .second, .val (.long ((q + (719528 : Int64)) - (60 : Int64))), .second, .unset, .unset, .unset, .unset, .unset, .unset, .unset, .unset, .unset, .unset] [])) (fun _ hk => XS.lstoreN X2.here hx rfl (hb hby d1_19) rfl  (l' := #[.val (.long q), .second, .val (.long ((q + (719528 : Int64)) - (60 : Int64))), .second, .unset, .unset, .unset, .unset, .unset, .unset, .unset, .unset, .unset, .unset]) rfl hk) ?_
  refine own_st (V := T2.setTop (mkF m 21 #[.val (.long q), .second, .val (.long ((q + (719528 : Int64)) - (60 : Int64))), .second, .unset, .unset, .unset, .unset, .unset, .unset, .unset, .unset, .unset, .unset] [(.long (0 : Int64))])) (fun _ hk => XS.lconst X2.here hx rfl (hb hby d1_20) hk) ?_
  refine own_st (V := T2.setTop (mkF m 23 #[.val (.long q), .second, .val (.long ((q + (719528 : Int64)) - (60 : Int64))), .second, .val (.long (0 : Int64)), .second, .unset, .unset, .unset, .unset, .unset, .unset, .unset, .unset] [])) (fun _ hk => XS.lstore X2.here hx rfl (hb hby d1_21) rfl  (l' := #[.val (.long q), .second, .val (.long ((q + (719528 : Int64)) - (60 : Int64))), .second, .val (.long (0 : Int64)), .second, .unset, .unset, .unset, .unset, .unset, .unset, .unset, .unset]) rfl hk) ?_
  refine own_st (V := T2.setTop (mkF m 24 #[.val (.long q), .second, .val (.long ((q + (719528 : Int64)) - (60 : Int64))), .second, .val (.long (0 : Int64)), .second, .unset, .unset, .unset, .unset, .unset, .unset, .unset, .unset] [(.long ((q + (719528 : Int64)) - (60 : Int64)))])) (fun _ hk => XS.lloadN X2.here hx rfl (hb hby d1_23) rfl  hk) ?_
  refine own_st (V := T2.setTop (mkF m 25 #[.val (.long q), .second, .val (.long ((q + (719528 : Int64)) - (60 : Int64))), .second, .val (.long (0 : Int64)), .second, .unset, .unset, .unset, .unset, .unset, .unset, .unset, .unset] [(.long (0 : Int64)), (.long ((q + (719528 : Int64)) - (60 : Int64)))])) (fun _ hk => XS.lconst X2.here hx rfl (hb hby d1_24) hk) ?_
  refine own_st (V := T2.setTop (mkF m 26 #[.val (.long q), .second, .val (.long ((q + (719528 : Int64)) - (60 : Int64))), .second, .val (.long (0 : Int64)), .second, .unset, .unset, .unset, .unset, .unset, .unset, .unset, .unset] [(.int (lcmpW ((q + (719528 : Int64)) - (60 : Int64)) (0 : Int64)))])) (fun _ hk => XS.lcmp X2.here hx rfl (hb hby d1_25) rfl hk) ?_
  by_cases hc26 : (lcmpW ((q + (719528 : Int64)) - (60 : Int64)) (0 : Int64)) < (0 : Int32)
  · skip
    refine own_st (V := T2.setTop (mkF m 29 #[.val (.long q), .second, .val (.long ((q + (719528 : Int64)) - (60 : Int64))), .second, .val (.long (0 : Int64)), .second, .unset, .unset, .unset, .unset, .unset, .unset, .unset, .unset] [])) (fun _ hk => XS.ifNo X2.here hx rfl (hb hby d1_26) rfl ((if0 _ _).trans (tlt (show (lcmpW ((q + (719528 : Int64)) - (60 : Int64)) (0 : Int64)) < (0 : Int32) from hc26)).2.1) hk) ?_
    refine own_st (V := T2.setTop (mkF m 30 #[.val (.long q), .second, .val (.long ((q + (719528 : Int64)) - (60 : Int64))), .second, .val (.long (0 : Int64)), .second, .unset, .unset, .unset, .unset, .unset, .unset, .unset, .unset] [(.long ((q + (719528 : Int64)) - (60 : Int64)))])) (fun _ hk => XS.lloadN X2.here hx rfl (hb hby d1_29) rfl  hk) ?_
    refine own_st (V := T2.setTop (mkF m 31 #[.val (.long q), .second, .val (.long ((q + (719528 : Int64)) - (60 : Int64))), .second, .val (.long (0 : Int64)), .second, .unset, .unset, .unset, .unset, .unset, .unset, .unset, .unset] [(.long (1 : Int64)), (.long ((q + (719528 : Int64)) - (60 : Int64)))])) (fun _ hk => XS.lconst X2.here hx rfl (hb hby d1_30) hk) ?_
    refine own_st (V := T2.setTop (mkF m 32 #[.val (.long q), .second, .val (.long ((q + (719528 : Int64)) - (60 : Int64))), .second, .val (.long (0 : Int64)), .second, .unset, .unset, .unset, .unset, .unset, .unset, .unset, .unset] [(.long (((q + (719528 : Int64)) - (60 : Int64)) + (1 : Int64)))])) (fun _ hk => XS.ladd X2.here hx rfl (hb hby d1_31) rfl hk) ?_
    refine own_st (V := T2.setTop (mkF m 35 #[.val (.long q), .second, .val (.long ((q + (719528 : Int64)) - (60 : Int64))), .second, .val (.long (0 : Int64)), .second, .unset, .unset, .unset, .unset, .unset, .unset, .unset, .unset] [(.long (146097 : Int64)), (.long (((q + (719528 : Int64)) - (60 : Int64)) + (1 : Int64)))])) (X2.ldc2Long hx hown (mvT hZ (hw _ (List.mem_of_getElem? (i := 48) rfl))) (g := (mkF m 32 #[.val (.long q), .second, .val (.long ((q + (719528 : Int64)) - (60 : Int64))), .second, .val (.long (0 : Int64)), .second, .unset, .unset, .unset, .unset, .unset, .unset, .unset, .unset] [(.long (((q + (719528 : Int64)) - (60 : Int64)) + (1 : Int64)))])) rfl (hb hby d1_32)) ?_
    refine own_st (V := T2.setTop (mkF m 36 #[.val (.long q), .second, .val (.long ((q + (719528 : Int64)) - (60 : Int64))), .second, .val (.long (0 : Int64)), .second, .unset, .unset, .unset, .unset, .unset, .unset, .unset, .unset] [(.long ((((q + (719528 : Int64)) - (60 : Int64)) + (1 : Int64)) / (146097 : Int64)))])) (fun _ hk => XS.ldiv X2.here hx rfl (hb hby d1_35) rfl (by decide) hk) ?_
    refine own_st (V := T2.setTop (mkF m 37 #[.val (.long q), .second, .val (.long ((q + (719528 : Int64)) - (60 : Int64))), .second, .val (.long (0 : Int64)), .second, .unset, .unset, .unset, .unset, .unset, .unset, .unset, .unset] [(.long (1 : Int64)), (.long ((((q + (719528 : Int64)) - (60 : Int64)) + (1 : Int64)) / (146097 : Int64)))])) (fun _ hk => XS.lconst X2.here hx rfl (hb hby d1_36) hk) ?_
    refine own_st (V := T2.setTop (mkF m 38 #[.val (.long q), .second, .val (.long ((q + (719528 : Int64)) - (60 : Int64))), .second, .val (.long (0 : Int64)), .second, .unset, .unset, .unset, .unset, .unset, .unset, .unset, .unset] [(.long (((((q + (719528 : Int64)) - (60 : Int64)) + (1 : Int64)) / (146097 : Int64)) - (1 : Int64)))])) (fun _ hk => XS.lsub X2.here hx rfl (hb hby d1_37) rfl hk) ?_
    refine own_st (V := T2.setTop (mkF m 40 #[.val (.long q), .second, .val (.long ((q + (719528 : Int64)) - (60 : Int64))), .second, .val (.long (0 : Int64)), .second, .val (.long (((((q + (719528 : Int64)) - (60 : Int64)) + (1 : Int64)) / (146097 : Int64)) - (1 : Int64))), .second, .unset, .unset, .unset, .unset, .unset, .unset] [])) (fun _ hk => XS.lstore X2.here hx rfl (hb hby d1_38) rfl  (l' := #[.val (.long q), .second, .val (.long ((q + (719528 : Int64)) - (60 : Int64))), .second, .val (.long (0 : Int64)), .second, .val (.long (((((q + (719528 : Int64)) - (60 : Int64)) + (1 : Int64)) / (146097 : Int64)) - (1 : Int64))), .second, .unset, .unset, .unset, .unset, .unset, .unset]) rfl hk) ?_
    refine own_st (V := T2.setTop (mkF m 42 #[.val (.long q), .second, .val (.long ((q + (719528 : Int64)) - (60 : Int64))), .second, .val (.long (0 : Int64)), .second, .val (.long (((((q + (719528 : Int64)) - (60 : Int64)) + (1 : Int64)) / (146097 : Int64)) - (1 : Int64))), .second, .unset, .unset, .unset, .unset, .unset, .unset] [(.long (((((q + (719528 : Int64)) - (60 : Int64)) + (1 : Int64)) / (146097 : Int64)) - (1 : Int64)))])) (fun _ hk => XS.lload X2.here hx rfl (hb hby d1_40) rfl  hk) ?_
    refine own_st (V := T2.setTop (mkF m 45 #[.val (.long q), .second, .val (.long ((q + (719528 : Int64)) - (60 : Int64))), .second, .val (.long (0 : Int64)), .second, .val (.long (((((q + (719528 : Int64)) - (60 : Int64)) + (1 : Int64)) / (146097 : Int64)) - (1 : Int64))), .second, .unset, .unset, .unset, .unset, .unset, .unset] [(.long (400 : Int64)), (.long (((((q + (719528 : Int64)) - (60 : Int64)) + (1 : Int64)) / (146097 : Int64)) - (1 : Int64)))])) (X2.ldc2Long hx hown (mvT hZ (hw _ (List.mem_of_getElem? (i := 46) rfl))) (g := (mkF m 42 #[.val (.long q), .second, .val (.long ((q + (719528 : Int64)) - (60 : Int64))), .second, .val (.long (0 : Int64)), .second, .val (.long (((((q + (719528 : Int64)) - (60 : Int64)) + (1 : Int64)) / (146097 : Int64)) - (1 : Int64))), .second, .unset, .unset, .unset, .unset, .unset, .unset] [(.long (((((q + (719528 : Int64)) - (60 : Int64)) + (1 : Int64)) / (146097 : Int64)) - (1 : Int64)))])) rfl (hb hby d1_42)) ?_
    refine own_st (V := T2.setTop (mkF m 46 #[.val (.long q), .second, .val (.long ((q + (719528 : Int64)) - (60 : Int64))), .second, .val (.long (0 : Int64)), .second, .val (.long (((((q + (719528 : Int64)) - (60 : Int64)) + (1 : Int64)) / (146097 : Int64)) - (1 : Int64))), .second, .unset, .unset, .unset, .unset, .unset, .unset] [(.long ((((((q + (719528 : Int64)) - (60 : Int64)) + (1 : Int64)) / (146097 : Int64)) - (1 : Int64)) * (400 : Int64)))])) (fun _ hk => XS.lmul X2.here hx rfl (hb hby d1_45) rfl hk) ?_
    refine own_st (V := T2.setTop (mkF m 48 #[.val (.long q), .second, .val (.long ((q + (719528 : Int64)) - (60 : Int64))), .second, .val (.long ((((((q + (719528 : Int64)) - (60 : Int64)) + (1 : Int64)) / (146097 : Int64)) - (1 : Int64)) * (400 : Int64))), .second, .val (.long (((((q + (719528 : Int64)) - (60 : Int64)) + (1 : Int64)) / (146097 : Int64)) - (1 : Int64))), .second, .unset, .unset, .unset, .unset, .unset, .unset] [])) (fun _ hk => XS.lstore X2.here hx rfl (hb hby d1_46) rfl  (l' := #[.val (.long q), .second, .val (.long ((q + (719528 : Int64)) - (60 : Int64))), .second, .val (.long ((((((q + (719528 : Int64)) - (60 : Int64)) + (1 : Int64)) / (146097 : Int64)) - (1 : Int64)) * (400 : Int64))), .second, .val (.long (((((q + (719528 : Int64)) - (60 : Int64)) + (1 : Int64)) / (146097 : Int64)) - (1 : Int64))), .second, .unset, .unset, .unset, .unset, .unset, .unset]) rfl hk) ?_
    refine own_st (V := T2.setTop (mkF m 49 #[.val (.long q), .second, .val (.long ((q + (719528 : Int64)) - (60 : Int64))), .second, .val (.long ((((((q + (719528 : Int64)) - (60 : Int64)) + (1 : Int64)) / (146097 : Int64)) - (1 : Int64)) * (400 : Int64))), .second, .val (.long (((((q + (719528 : Int64)) - (60 : Int64)) + (1 : Int64)) / (146097 : Int64)) - (1 : Int64))), .second, .unset, .unset, .unset, .unset, .unset, .unset] [(.long ((q + (719528 : Int64)) - (60 : Int64)))])) (fun _ hk => XS.lloadN X2.here hx rfl (hb hby d1_48) rfl  hk) ?_
    refine own_st (V := T2.setTop (mkF m 51 #[.val (.long q), .second, .val (.long ((q + (719528 : Int64)) - (60 : Int64))), .second, .val (.long ((((((q + (719528 : Int64)) - (60 : Int64)) + (1 : Int64)) / (146097 : Int64)) - (1 : Int64)) * (400 : Int64))), .second, .val (.long (((((q + (719528 : Int64)) - (60 : Int64)) + (1 : Int64)) / (146097 : Int64)) - (1 : Int64))), .second, .unset, .unset, .unset, .unset, .unset, .unset] [(.long (((((q + (719528 : Int64)) - (60 : Int64)) + (1 : Int64)) / (146097 : Int64)) - (1 : Int64))), (.long ((q + (719528 : Int64)) - (60 : Int64)))])) (fun _ hk => XS.lload X2.here hx rfl (hb hby d1_49) rfl  hk) ?_
    refine own_st (V := T2.setTop (mkF m 52 #[.val (.long q), .second, .val (.long ((q + (719528 : Int64)) - (60 : Int64))), .second, .val (.long ((((((q + (719528 : Int64)) - (60 : Int64)) + (1 : Int64)) / (146097 : Int64)) - (1 : Int64)) * (400 : Int64))), .second, .val (.long (((((q + (719528 : Int64)) - (60 : Int64)) + (1 : Int64)) / (146097 : Int64)) - (1 : Int64))), .second, .unset, .unset, .unset, .unset, .unset, .unset] [(.long (-(((((q + (719528 : Int64)) - (60 : Int64)) + (1 : Int64)) / (146097 : Int64)) - (1 : Int64)))), (.long ((q + (719528 : Int64)) - (60 : Int64)))])) (fun _ hk => XS.lneg X2.here hx rfl (hb hby d1_51) rfl hk) ?_
    refine own_st (V := T2.setTop (mkF m 55 #[.val (.long q), .second, .val (.long ((q + (719528 : Int64)) - (60 : Int64))), .second, .val (.long ((((((q + (719528 : Int64)) - (60 : Int64)) + (1 : Int64)) / (146097 : Int64)) - (1 : Int64)) * (400 : Int64))), .second, .val (.long (((((q + (719528 : Int64)) - (60 : Int64)) + (1 : Int64)) / (146097 : Int64)) - (1 : Int64))), .second, .unset, .unset, .unset, .unset, .unset, .unset] [(.long (146097 : Int64)), (.long (-(((((q + (719528 : Int64)) - (60 : Int64)) + (1 : Int64)) / (146097 : Int64)) - (1 : Int64)))), (.long ((q + (719528 : Int64)) - (60 : Int64)))])) (X2.ldc2Long hx hown (mvT hZ (hw _ (List.mem_of_getElem? (i := 48) rfl))) (g := (mkF m 52 #[.val (.long q), .second, .val (.long ((q + (719528 : Int64)) - (60 : Int64))), .second, .val (.long ((((((q + (719528 : Int64)) - (60 : Int64)) + (1 : Int64)) / (146097 : Int64)) - (1 : Int64)) * (400 : Int64))), .second, .val (.long (((((q + (719528 : Int64)) - (60 : Int64)) + (1 : Int64)) / (146097 : Int64)) - (1 : Int64))), .second, .unset, .unset, .unset, .unset, .unset, .unset] [(.long (-(((((q + (719528 : Int64)) - (60 : Int64)) + (1 : Int64)) / (146097 : Int64)) - (1 : Int64)))), (.long ((q + (719528 : Int64)) - (60 : Int64)))])) rfl (hb hby d1_52)) ?_
    refine own_st (V := T2.setTop (mkF m 56 #[.val (.long q), .second, .val (.long ((q + (719528 : Int64)) - (60 : Int64))), .second, .val (.long ((((((q + (719528 : Int64)) - (60 : Int64)) + (1 : Int64)) / (146097 : Int64)) - (1 : Int64)) * (400 : Int64))), .second, .val (.long (((((q + (719528 : Int64)) - (60 : Int64)) + (1 : Int64)) / (146097 : Int64)) - (1 : Int64))), .second, .unset, .unset, .unset, .unset, .unset, .unset] [(.long ((-(((((q + (719528 : Int64)) - (60 : Int64)) + (1 : Int64)) / (146097 : Int64)) - (1 : Int64))) * (146097 : Int64))), (.long ((q + (719528 : Int64)) - (60 : Int64)))])) (fun _ hk => XS.lmul X2.here hx rfl (hb hby d1_55) rfl hk) ?_
    refine own_st (V := T2.setTop (mkF m 57 #[.val (.long q), .second, .val (.long ((q + (719528 : Int64)) - (60 : Int64))), .second, .val (.long ((((((q + (719528 : Int64)) - (60 : Int64)) + (1 : Int64)) / (146097 : Int64)) - (1 : Int64)) * (400 : Int64))), .second, .val (.long (((((q + (719528 : Int64)) - (60 : Int64)) + (1 : Int64)) / (146097 : Int64)) - (1 : Int64))), .second, .unset, .unset, .unset, .unset, .unset, .unset] [(.long (((q + (719528 : Int64)) - (60 : Int64)) + ((-(((((q + (719528 : Int64)) - (60 : Int64)) + (1 : Int64)) / (146097 : Int64)) - (1 : Int64))) * (146097 : Int64))))])) (fun _ hk => XS.ladd X2.here hx rfl (hb hby d1_56) rfl hk) ?_
    refine own_st (V := T2.setTop (mkF m 58 #[.val (.long q), .second, .val (.long (((q + (719528 : Int64)) - (60 : Int64)) + ((-(((((q + (719528 : Int64)) - (60 : Int64)) + (1 : Int64)) / (146097 : Int64)) - (1 : Int64))) * (146097 : Int64)))), .second, .val (.long ((((((q + (719528 : Int64)) - (60 : Int64)) + (1 : Int64)) / (146097 : Int64)) - (1 : Int64)) * (400 : Int64))), .second, .val (.long (((((q + (719528 : Int64)) - (60 : Int64)) + (1 : Int64)) / (146097 : Int64)) - (1 : Int64))), .second, .unset, .unset, .unset, .unset, .unset, .unset] [])) (fun _ hk => XS.lstoreN X2.here hx rfl (hb hby d1_57) rfl  (l' := #[.val (.long q), .second, .val (.long (((q + (719528 : Int64)) - (60 : Int64)) + ((-(((((q + (719528 : Int64)) - (60 : Int64)) + (1 : Int64)) / (146097 : Int64)) - (1 : Int64))) * (146097 : Int64)))), .second, .val (.long ((((((q + (719528 : Int64)) - (60 : Int64)) + (1 : Int64)) / (146097 : Int64)) - (1 : Int64)) * (400 : Int64))), .second, .val (.long (((((q + (719528 : Int64)) - (60 : Int64)) + (1 : Int64)) / (146097 : Int64)) - (1 : Int64))), .second, .unset, .unset, .unset, .unset, .unset, .unset]) rfl hk) ?_
    refine own_st (V := T2.setTop (mkF m 61 #[.val (.long q), .second, .val (.long (((q + (719528 : Int64)) - (60 : Int64)) + ((-(((((q + (719528 : Int64)) - (60 : Int64)) + (1 : Int64)) / (146097 : Int64)) - (1 : Int64))) * (146097 : Int64)))), .second, .val (.long ((((((q + (719528 : Int64)) - (60 : Int64)) + (1 : Int64)) / (146097 : Int64)) - (1 : Int64)) * (400 : Int64))), .second, .val (.long (((((q + (719528 : Int64)) - (60 : Int64)) + (1 : Int64)) / (146097 : Int64)) - (1 : Int64))), .second, .unset, .unset, .unset, .unset, .unset, .unset] [(.long (400 : Int64))])) (X2.ldc2Long hx hown (mvT hZ (hw _ (List.mem_of_getElem? (i := 46) rfl))) (g := (mkF m 58 #[.val (.long q), .second, .val (.long (((q + (719528 : Int64)) - (60 : Int64)) + ((-(((((q + (719528 : Int64)) - (60 : Int64)) + (1 : Int64)) / (146097 : Int64)) - (1 : Int64))) * (146097 : Int64)))), .second, .val (.long ((((((q + (719528 : Int64)) - (60 : Int64)) + (1 : Int64)) / (146097 : Int64)) - (1 : Int64)) * (400 : Int64))), .second, .val (.long (((((q + (719528 : Int64)) - (60 : Int64)) + (1 : Int64)) / (146097 : Int64)) - (1 : Int64))), .second, .unset, .unset, .unset, .unset, .unset, .unset] [])) rfl (hb hby d1_58)) ?_
    refine own_st (V := T2.setTop (mkF m 62 #[.val (.long q), .second, .val (.long (((q + (719528 : Int64)) - (60 : Int64)) + ((-(((((q + (719528 : Int64)) - (60 : Int64)) + (1 : Int64)) / (146097 : Int64)) - (1 : Int64))) * (146097 : Int64)))), .second, .val (.long ((((((q + (719528 : Int64)) - (60 : Int64)) + (1 : Int64)) / (146097 : Int64)) - (1 : Int64)) * (400 : Int64))), .second, .val (.long (((((q + (719528 : Int64)) - (60 : Int64)) + (1 : Int64)) / (146097 : Int64)) - (1 : Int64))), .second, .unset, .unset, .unset, .unset, .unset, .unset] [(.long (((q + (719528 : Int64)) - (60 : Int64)) + ((-(((((q + (719528 : Int64)) - (60 : Int64)) + (1 : Int64)) / (146097 : Int64)) - (1 : Int64))) * (146097 : Int64)))), (.long (400 : Int64))])) (fun _ hk => XS.lloadN X2.here hx rfl (hb hby d1_61) rfl  hk) ?_
    refine own_st (V := T2.setTop (mkF m 63 #[.val (.long q), .second, .val (.long (((q + (719528 : Int64)) - (60 : Int64)) + ((-(((((q + (719528 : Int64)) - (60 : Int64)) + (1 : Int64)) / (146097 : Int64)) - (1 : Int64))) * (146097 : Int64)))), .second, .val (.long ((((((q + (719528 : Int64)) - (60 : Int64)) + (1 : Int64)) / (146097 : Int64)) - (1 : Int64)) * (400 : Int64))), .second, .val (.long (((((q + (719528 : Int64)) - (60 : Int64)) + (1 : Int64)) / (146097 : Int64)) - (1 : Int64))), .second, .unset, .unset, .unset, .unset, .unset, .unset] [(.long ((400 : Int64) * (((q + (719528 : Int64)) - (60 : Int64)) + ((-(((((q + (719528 : Int64)) - (60 : Int64)) + (1 : Int64)) / (146097 : Int64)) - (1 : Int64))) * (146097 : Int64)))))])) (fun _ hk => XS.lmul X2.here hx rfl (hb hby d1_62) rfl hk) ?_
    refine own_st (V := T2.setTop (mkF m 66 #[.val (.long q), .second, .val (.long (((q + (719528 : Int64)) - (60 : Int64)) + ((-(((((q + (719528 : Int64)) - (60 : Int64)) + (1 : Int64)) / (146097 : Int64)) - (1 : Int64))) * (146097 : Int64)))), .second, .val (.long ((((((q + (719528 : Int64)) - (60 : Int64)) + (1 : Int64)) / (146097 : Int64)) - (1 : Int64)) * (400 : Int64))), .second, .val (.long (((((q + (719528 : Int64)) - (60 : Int64)) + (1 : Int64)) / (146097 : Int64)) - (1 : Int64))), .second, .unset, .unset, .unset, .unset, .unset, .unset] [(.long (591 : Int64)), (.long ((400 : Int64) * (((q + (719528 : Int64)) - (60 : Int64)) + ((-(((((q + (719528 : Int64)) - (60 : Int64)) + (1 : Int64)) / (146097 : Int64)) - (1 : Int64))) * (146097 : Int64)))))])) (X2.ldc2Long hx hown (mvT hZ (hw _ (List.mem_of_getElem? (i := 47) rfl))) (g := (mkF m 63 #[.val (.long q), .second, .val (.long (((q + (719528 : Int64)) - (60 : Int64)) + ((-(((((q + (719528 : Int64)) - (60 : Int64)) + (1 : Int64)) / (146097 : Int64)) - (1 : Int64))) * (146097 : Int64)))), .second, .val (.long ((((((q + (719528 : Int64)) - (60 : Int64)) + (1 : Int64)) / (146097 : Int64)) - (1 : Int64)) * (400 : Int64))), .second, .val (.long (((((q + (719528 : Int64)) - (60 : Int64)) + (1 : Int64)) / (146097 : Int64)) - (1 : Int64))), .second, .unset, .unset, .unset, .unset, .unset, .unset] [(.long ((400 : Int64) * (((q + (719528 : Int64)) - (60 : Int64)) + ((-(((((q + (719528 : Int64)) - (60 : Int64)) + (1 : Int64)) / (146097 : Int64)) - (1 : Int64))) * (146097 : Int64)))))])) rfl (hb hby d1_63)) ?_
    refine own_st (V := T2.setTop (mkF m 67 #[.val (.long q), .second, .val (.long (((q + (719528 : Int64)) - (60 : Int64)) + ((-(((((q + (719528 : Int64)) - (60 : Int64)) + (1 : Int64)) / (146097 : Int64)) - (1 : Int64))) * (146097 : Int64)))), .second, .val (.long ((((((q + (719528 : Int64)) - (60 : Int64)) + (1 : Int64)) / (146097 : Int64)) - (1 : Int64)) * (400 : Int64))), .second, .val (.long (((((q + (719528 : Int64)) - (60 : Int64)) + (1 : Int64)) / (146097 : Int64)) - (1 : Int64))), .second, .unset, .unset, .unset, .unset, .unset, .unset] [(.long (((400 : Int64) * (((q + (719528 : Int64)) - (60 : Int64)) + ((-(((((q + (719528 : Int64)) - (60 : Int64)) + (1 : Int64)) / (146097 : Int64)) - (1 : Int64))) * (146097 : Int64)))) + (591 : Int64)))])) (fun _ hk => XS.ladd X2.here hx rfl (hb hby d1_66) rfl hk) ?_
    refine own_st (V := T2.setTop (mkF m 70 #[.val (.long q), .second, .val (.long (((q + (719528 : Int64)) - (60 : Int64)) + ((-(((((q + (719528 : Int64)) - (60 : Int64)) + (1 : Int64)) / (146097 : Int64)) - (1 : Int64))) * (146097 : Int64)))), .second, .val (.long ((((((q + (719528 : Int64)) - (60 : Int64)) + (1 : Int64)) / (146097 : Int64)) - (1 : Int64)) * (400 : Int64))), .second, .val (.long (((((q + (719528 : Int64)) - (60 : Int64)) + (1 : Int64)) / (146097 : Int64)) - (1 : Int64))), .second, .unset, .unset, .unset, .unset, .unset, .unset] [(.long (146097 : Int64)), (.long (((400 : Int64) * (((q + (719528 : Int64)) - (60 : Int64)) + ((-(((((q + (719528 : Int64)) - (60 : Int64)) + (1 : Int64)) / (146097 : Int64)) - (1 : Int64))) * (146097 : Int64)))) + (591 : Int64)))])) (X2.ldc2Long hx hown (mvT hZ (hw _ (List.mem_of_getElem? (i := 48) rfl))) (g := (mkF m 67 #[.val (.long q), .second, .val (.long (((q + (719528 : Int64)) - (60 : Int64)) + ((-(((((q + (719528 : Int64)) - (60 : Int64)) + (1 : Int64)) / (146097 : Int64)) - (1 : Int64))) * (146097 : Int64)))), .second, .val (.long ((((((q + (719528 : Int64)) - (60 : Int64)) + (1 : Int64)) / (146097 : Int64)) - (1 : Int64)) * (400 : Int64))), .second, .val (.long (((((q + (719528 : Int64)) - (60 : Int64)) + (1 : Int64)) / (146097 : Int64)) - (1 : Int64))), .second, .unset, .unset, .unset, .unset, .unset, .unset] [(.long (((400 : Int64) * (((q + (719528 : Int64)) - (60 : Int64)) + ((-(((((q + (719528 : Int64)) - (60 : Int64)) + (1 : Int64)) / (146097 : Int64)) - (1 : Int64))) * (146097 : Int64)))) + (591 : Int64)))])) rfl (hb hby d1_67)) ?_
    refine own_st (V := T2.setTop (mkF m 71 #[.val (.long q), .second, .val (.long (((q + (719528 : Int64)) - (60 : Int64)) + ((-(((((q + (719528 : Int64)) - (60 : Int64)) + (1 : Int64)) / (146097 : Int64)) - (1 : Int64))) * (146097 : Int64)))), .second, .val (.long ((((((q + (719528 : Int64)) - (60 : Int64)) + (1 : Int64)) / (146097 : Int64)) - (1 : Int64)) * (400 : Int64))), .second, .val (.long (((((q + (719528 : Int64)) - (60 : Int64)) + (1 : Int64)) / (146097 : Int64)) - (1 : Int64))), .second, .unset, .unset, .unset, .unset, .unset, .unset] [(.long ((((400 : Int64) * (((q + (719528 : Int64)) - (60 : Int64)) + ((-(((((q + (719528 : Int64)) - (60 : Int64)) + (1 : Int64)) / (146097 : Int64)) - (1 : Int64))) * (146097 : Int64)))) + (591 : Int64)) / (146097 : Int64)))])) (fun _ hk => XS.ldiv X2.here hx rfl (hb hby d1_70) rfl (by decide) hk) ?_
    refine own_st (V := T2.setTop (mkF m 73 #[.val (.long q), .second, .val (.long (((q + (719528 : Int64)) - (60 : Int64)) + ((-(((((q + (719528 : Int64)) - (60 : Int64)) + (1 : Int64)) / (146097 : Int64)) - (1 : Int64))) * (146097 : Int64)))), .second, .val (.long ((((((q + (719528 : Int64)) - (60 : Int64)) + (1 : Int64)) / (146097 : Int64)) - (1 : Int64)) * (400 : Int64))), .second, .val (.long ((((400 : Int64) * (((q + (719528 : Int64)) - (60 : Int64)) + ((-(((((q + (719528 : Int64)) - (60 : Int64)) + (1 : Int64)) / (146097 : Int64)) - (1 : Int64))) * (146097 : Int64)))) + (591 : Int64)) / (146097 : Int64))), .second, .unset, .unset, .unset, .unset, .unset, .unset] [])) (fun _ hk => XS.lstore X2.here hx rfl (hb hby d1_71) rfl  (l' := #[.val (.long q), .second, .val (.long (((q + (719528 : Int64)) - (60 : Int64)) + ((-(((((q + (719528 : Int64)) - (60 : Int64)) + (1 : Int64)) / (146097 : Int64)) - (1 : Int64))) * (146097 : Int64)))), .second, .val (.long ((((((q + (719528 : Int64)) - (60 : Int64)) + (1 : Int64)) / (146097 : Int64)) - (1 : Int64)) * (400 : Int64))), .second, .val (.long ((((400 : Int64) * (((q + (719528 : Int64)) - (60 : Int64)) + ((-(((((q + (719528 : Int64)) - (60 : Int64)) + (1 : Int64)) / (146097 : Int64)) - (1 : Int64))) * (146097 : Int64)))) + (591 : Int64)) / (146097 : Int64))), .second, .unset, .unset, .unset, .unset, .unset, .unset]) rfl hk) ?_
    refine own_st (V := T2.setTop (mkF m 74 #[.val (.long q), .second, .val (.long (((q + (719528 : Int64)) - (60 : Int64)) + ((-(((((q + (719528 : Int64)) - (60 : Int64)) + (1 : Int64)) / (146097 : Int64)) - (1 : Int64))) * (146097 : Int64)))), .second, .val (.long ((((((q + (719528 : Int64)) - (60 : Int64)) + (1 : Int64)) / (146097 : Int64)) - (1 : Int64)) * (400 : Int64))), .second, .val (.long ((((400 : Int64) * (((q + (719528 : Int64)) - (60 : Int64)) + ((-(((((q + (719528 : Int64)) - (60 : Int64)) + (1 : Int64)) / (146097 : Int64)) - (1 : Int64))) * (146097 : Int64)))) + (591 : Int64)) / (146097 : Int64))), .second, .unset, .unset, .unset, .unset, .unset, .unset] [(.long (((q + (719528 : Int64)) - (60 : Int64)) + ((-(((((q + (719528 : Int64)) - (60 : Int64)) + (1 : Int64)) / (146097 : Int64)) - (1 : Int64))) * (146097 : Int64))))])) (fun _ hk => XS.lloadN X2.here hx rfl (hb hby d1_73) rfl  hk) ?_
    refine own_st (V := T2.setTop (mkF m 77 #[.val (.long q), .second, .val (.long (((q + (719528 : Int64)) - (60 : Int64)) + ((-(((((q + (719528 : Int64)) - (60 : Int64)) + (1 : Int64)) / (146097 : Int64)) - (1 : Int64))) * (146097 : Int64)))), .second, .val (.long ((((((q + (719528 : Int64)) - (60 : Int64)) + (1 : Int64)) / (146097 : Int64)) - (1 : Int64)) * (400 : Int64))), .second, .val (.long ((((400 : Int64) * (((q + (719528 : Int64)) - (60 : Int64)) + ((-(((((q + (719528 : Int64)) - (60 : Int64)) + (1 : Int64)) / (146097 : Int64)) - (1 : Int64))) * (146097 : Int64)))) + (591 : Int64)) / (146097 : Int64))), .second, .unset, .unset, .unset, .unset, .unset, .unset] [(.long (365 : Int64)), (.long (((q + (719528 : Int64)) - (60 : Int64)) + ((-(((((q + (719528 : Int64)) - (60 : Int64)) + (1 : Int64)) / (146097 : Int64)) - (1 : Int64))) * (146097 : Int64))))])) (X2.ldc2Long hx hown (mvT hZ (hw _ (List.mem_of_getElem? (i := 49) rfl))) (g := (mkF m 74 #[.val (.long q), .second, .val (.long (((q + (719528 : Int64)) - (60 : Int64)) + ((-(((((q + (719528 : Int64)) - (60 : Int64)) + (1 : Int64)) / (146097 : Int64)) - (1 : Int64))) * (146097 : Int64)))), .second, .val (.long ((((((q + (719528 : Int64)) - (60 : Int64)) + (1 : Int64)) / (146097 : Int64)) - (1 : Int64)) * (400 : Int64))), .second, .val (.long ((((400 : Int64) * (((q + (719528 : Int64)) - (60 : Int64)) + ((-(((((q + (719528 : Int64)) - (60 : Int64)) + (1 : Int64)) / (146097 : Int64)) - (1 : Int64))) * (146097 : Int64)))) + (591 : Int64)) / (146097 : Int64))), .second, .unset, .unset, .unset, .unset, .unset, .unset] [(.long (((q + (719528 : Int64)) - (60 : Int64)) + ((-(((((q + (719528 : Int64)) - (60 : Int64)) + (1 : Int64)) / (146097 : Int64)) - (1 : Int64))) * (146097 : Int64))))])) rfl (hb hby d1_74)) ?_
    refine own_st (V := T2.setTop (mkF m 79 #[.val (.long q), .second, .val (.long (((q + (719528 : Int64)) - (60 : Int64)) + ((-(((((q + (719528 : Int64)) - (60 : Int64)) + (1 : Int64)) / (146097 : Int64)) - (1 : Int64))) * (146097 : Int64)))), .second, .val (.long ((((((q + (719528 : Int64)) - (60 : Int64)) + (1 : Int64)) / (146097 : Int64)) - (1 : Int64)) * (400 : Int64))), .second, .val (.long ((((400 : Int64) * (((q + (719528 : Int64)) - (60 : Int64)) + ((-(((((q + (719528 : Int64)) - (60 : Int64)) + (1 : Int64)) / (146097 : Int64)) - (1 : Int64))) * (146097 : Int64)))) + (591 : Int64)) / (146097 : Int64))), .second, .unset, .unset, .unset, .unset, .unset, .unset] [(.long ((((400 : Int64) * (((q + (719528 : Int64)) - (60 : Int64)) + ((-(((((q + (719528 : Int64)) - (60 : Int64)) + (1 : Int64)) / (146097 : Int64)) - (1 : Int64))) * (146097 : Int64)))) + (591 : Int64)) / (146097 : Int64))), (.long (365 : Int64)), (.long (((q + (719528 : Int64)) - (60 : Int64)) + ((-(((((q + (719528 : Int64)) - (60 : Int64)) + (1 : Int64)) / (146097 : Int64)) - (1 : Int64))) * (146097 : Int64))))])) (fun _ hk => XS.lload X2.here hx rfl (hb hby d1_77) rfl  hk) ?_
    refine own_st (V := T2.setTop (mkF m 80 #[.val (.long q), .second, .val (.long (((q + (719528 : Int64)) - (60 : Int64)) + ((-(((((q + (719528 : Int64)) - (60 : Int64)) + (1 : Int64)) / (146097 : Int64)) - (1 : Int64))) * (146097 : Int64)))), .second, .val (.long ((((((q + (719528 : Int64)) - (60 : Int64)) + (1 : Int64)) / (146097 : Int64)) - (1 : Int64)) * (400 : Int64))), .second, .val (.long ((((400 : Int64) * (((q + (719528 : Int64)) - (60 : Int64)) + ((-(((((q + (719528 : Int64)) - (60 : Int64)) + (1 : Int64)) / (146097 : Int64)) - (1 : Int64))) * (146097 : Int64)))) + (591 : Int64)) / (146097 : Int64))), .second, .unset, .unset, .unset, .unset, .unset, .unset] [(.long ((365 : Int64) * ((((400 : Int64) * (((q + (719528 : Int64)) - (60 : Int64)) + ((-(((((q + (719528 : Int64)) - (60 : Int64)) + (1 : Int64)) / (146097 : Int64)) - (1 : Int64))) * (146097 : Int64)))) + (591 : Int64)) / (146097 : Int64)))), (.long (((q + (719528 : Int64)) - (60 : Int64)) + ((-(((((q + (719528 : Int64)) - (60 : Int64)) + (1 : Int64)) / (146097 : Int64)) - (1 : Int64))) * (146097 : Int64))))])) (fun _ hk => XS.lmul X2.here hx rfl (hb hby d1_79) rfl hk) ?_
    refine own_st (V := T2.setTop (mkF m 82 #[.val (.long q), .second, .val (.long (((q + (719528 : Int64)) - (60 : Int64)) + ((-(((((q + (719528 : Int64)) - (60 : Int64)) + (1 : Int64)) / (146097 : Int64)) - (1 : Int64))) * (146097 : Int64)))), .second, .val (.long ((((((q + (719528 : Int64)) - (60 : Int64)) + (1 : Int64)) / (146097 : Int64)) - (1 : Int64)) * (400 : Int64))), .second, .val (.long ((((400 : Int64) * (((q + (719528 : Int64)) - (60 : Int64)) + ((-(((((q + (719528 : Int64)) - (60 : Int64)) + (1 : Int64)) / (146097 : Int64)) - (1 : Int64))) * (146097 : Int64)))) + (591 : Int64)) / (146097 : Int64))), .second, .unset, .unset, .unset, .unset, .unset, .unset] [(.long ((((400 : Int64) * (((q + (719528 : Int64)) - (60 : Int64)) + ((-(((((q + (719528 : Int64)) - (60 : Int64)) + (1 : Int64)) / (146097 : Int64)) - (1 : Int64))) * (146097 : Int64)))) + (591 : Int64)) / (146097 : Int64))), (.long ((365 : Int64) * ((((400 : Int64) * (((q + (719528 : Int64)) - (60 : Int64)) + ((-(((((q + (719528 : Int64)) - (60 : Int64)) + (1 : Int64)) / (146097 : Int64)) - (1 : Int64))) * (146097 : Int64)))) + (591 : Int64)) / (146097 : Int64)))), (.long (((q + (719528 : Int64)) - (60 : Int64)) + ((-(((((q + (719528 : Int64)) - (60 : Int64)) + (1 : Int64)) / (146097 : Int64)) - (1 : Int64))) * (146097 : Int64))))])) (fun _ hk => XS.lload X2.here hx rfl (hb hby d1_80) rfl  hk) ?_
    refine own_st (V := T2.setTop (mkF m 85 #[.val (.long q), .second, .val (.long (((q + (719528 : Int64)) - (60 : Int64)) + ((-(((((q + (719528 : Int64)) - (60 : Int64)) + (1 : Int64)) / (146097 : Int64)) - (1 : Int64))) * (146097 : Int64)))), .second, .val (.long ((((((q + (719528 : Int64)) - (60 : Int64)) + (1 : Int64)) / (146097 : Int64)) - (1 : Int64)) * (400 : Int64))), .second, .val (.long ((((400 : Int64) * (((q + (719528 : Int64)) - (60 : Int64)) + ((-(((((q + (719528 : Int64)) - (60 : Int64)) + (1 : Int64)) / (146097 : Int64)) - (1 : Int64))) * (146097 : Int64)))) + (591 : Int64)) / (146097 : Int64))), .second, .unset, .unset, .unset, .unset, .unset, .unset] [(.long (4 : Int64)), (.long ((((400 : Int64) * (((q + (719528 : Int64)) - (60 : Int64)) + ((-(((((q + (719528 : Int64)) - (60 : Int64)) + (1 : Int64)) / (146097 : Int64)) - (1 : Int64))) * (146097 : Int64)))) + (591 : Int64)) / (146097 : Int64))), (.long ((365 : Int64) * ((((400 : Int64) * (((q + (719528 : Int64)) - (60 : Int64)) + ((-(((((q + (719528 : Int64)) - (60 : Int64)) + (1 : Int64)) / (146097 : Int64)) - (1 : Int64))) * (146097 : Int64)))) + (591 : Int64)) / (146097 : Int64)))), (.long (((q + (719528 : Int64)) - (60 : Int64)) + ((-(((((q + (719528 : Int64)) - (60 : Int64)) + (1 : Int64)) / (146097 : Int64)) - (1 : Int64))) * (146097 : Int64))))])) (X2.ldc2Long hx hown (mvT hZ (hw _ (List.mem_of_getElem? (i := 50) rfl))) (g := (mkF m 82 #[.val (.long q), .second, .val (.long (((q + (719528 : Int64)) - (60 : Int64)) + ((-(((((q + (719528 : Int64)) - (60 : Int64)) + (1 : Int64)) / (146097 : Int64)) - (1 : Int64))) * (146097 : Int64)))), .second, .val (.long ((((((q + (719528 : Int64)) - (60 : Int64)) + (1 : Int64)) / (146097 : Int64)) - (1 : Int64)) * (400 : Int64))), .second, .val (.long ((((400 : Int64) * (((q + (719528 : Int64)) - (60 : Int64)) + ((-(((((q + (719528 : Int64)) - (60 : Int64)) + (1 : Int64)) / (146097 : Int64)) - (1 : Int64))) * (146097 : Int64)))) + (591 : Int64)) / (146097 : Int64))), .second, .unset, .unset, .unset, .unset, .unset, .unset] [(.long ((((400 : Int64) * (((q + (719528 : Int64)) - (60 : Int64)) + ((-(((((q + (719528 : Int64)) - (60 : Int64)) + (1 : Int64)) / (146097 : Int64)) - (1 : Int64))) * (146097 : Int64)))) + (591 : Int64)) / (146097 : Int64))), (.long ((365 : Int64) * ((((400 : Int64) * (((q + (719528 : Int64)) - (60 : Int64)) + ((-(((((q + (719528 : Int64)) - (60 : Int64)) + (1 : Int64)) / (146097 : Int64)) - (1 : Int64))) * (146097 : Int64)))) + (591 : Int64)) / (146097 : Int64)))), (.long (((q + (719528 : Int64)) - (60 : Int64)) + ((-(((((q + (719528 : Int64)) - (60 : Int64)) + (1 : Int64)) / (146097 : Int64)) - (1 : Int64))) * (146097 : Int64))))])) rfl (hb hby d1_82)) ?_
    refine own_st (V := T2.setTop (mkF m 86 #[.val (.long q), .second, .val (.long (((q + (719528 : Int64)) - (60 : Int64)) + ((-(((((q + (719528 : Int64)) - (60 : Int64)) + (1 : Int64)) / (146097 : Int64)) - (1 : Int64))) * (146097 : Int64)))), .second, .val (.long ((((((q + (719528 : Int64)) - (60 : Int64)) + (1 : Int64)) / (146097 : Int64)) - (1 : Int64)) * (400 : Int64))), .second, .val (.long ((((400 : Int64) * (((q + (719528 : Int64)) - (60 : Int64)) + ((-(((((q + (719528 : Int64)) - (60 : Int64)) + (1 : Int64)) / (146097 : Int64)) - (1 : Int64))) * (146097 : Int64)))) + (591 : Int64)) / (146097 : Int64))), .second, .unset, .unset, .unset, .unset, .unset, .unset] [(.long (((((400 : Int64) * (((q + (719528 : Int64)) - (60 : Int64)) + ((-(((((q + (719528 : Int64)) - (60 : Int64)) + (1 : Int64)) / (146097 : Int64)) - (1 : Int64))) * (146097 : Int64)))) + (591 : Int64)) / (146097 : Int64)) / (4 : Int64))), (.long ((365 : Int64) * ((((400 : Int64) * (((q + (719528 : Int64)) - (60 : Int64)) + ((-(((((q + (719528 : Int64)) - (60 : Int64)) + (1 : Int64)) / (146097 : Int64)) - (1 : Int64))) * (146097 : Int64)))) + (591 : Int64)) / (146097 : Int64)))), (.long (((q + (719528 : Int64)) - (60 : Int64)) + ((-(((((q + (719528 : Int64)) - (60 : Int64)) + (1 : Int64)) / (146097 : Int64)) - (1 : Int64))) * (146097 : Int64))))])) (fun _ hk => XS.ldiv X2.here hx rfl (hb hby d1_85) rfl (by decide) hk) ?_
    refine own_st (V := T2.setTop (mkF m 87 #[.val (.long q), .second, .val (.long (((q + (719528 : Int64)) - (60 : Int64)) + ((-(((((q + (719528 : Int64)) - (60 : Int64)) + (1 : Int64)) / (146097 : Int64)) - (1 : Int64))) * (146097 : Int64)))), .second, .val (.long ((((((q + (719528 : Int64)) - (60 : Int64)) + (1 : Int64)) / (146097 : Int64)) - (1 : Int64)) * (400 : Int64))), .second, .val (.long ((((400 : Int64) * (((q + (719528 : Int64)) - (60 : Int64)) + ((-(((((q + (719528 : Int64)) - (60 : Int64)) + (1 : Int64)) / (146097 : Int64)) - (1 : Int64))) * (146097 : Int64)))) + (591 : Int64)) / (146097 : Int64))), .second, .unset, .unset, .unset, .unset, .unset, .unset] [(.long (((365 : Int64) * ((((400 : Int64) * (((q + (719528 : Int64)) - (60 : Int64)) + ((-(((((q + (719528 : Int64)) - (60 : Int64)) + (1 : Int64)) / (146097 : Int64)) - (1 : Int64))) * (146097 : Int64)))) + (591 : Int64)) / (146097 : Int64))) + (((((400 : Int64) * (((q + (719528 : Int64)) - (60 : Int64)) + ((-(((((q + (719528 : Int64)) - (60 : Int64)) + (1 : Int64)) / (146097 : Int64)) - (1 : Int64))) * (146097 : Int64)))) + (591 : Int64)) / (146097 : Int64)) / (4 : Int64)))), (.long (((q + (719528 : Int64)) - (60 : Int64)) + ((-(((((q + (719528 : Int64)) - (60 : Int64)) + (1 : Int64)) / (146097 : Int64)) - (1 : Int64))) * (146097 : Int64))))])) (fun _ hk => XS.ladd X2.here hx rfl (hb hby d1_86) rfl hk) ?_
    refine own_st (V := T2.setTop (mkF m 89 #[.val (.long q), .second, .val (.long (((q + (719528 : Int64)) - (60 : Int64)) + ((-(((((q + (719528 : Int64)) - (60 : Int64)) + (1 : Int64)) / (146097 : Int64)) - (1 : Int64))) * (146097 : Int64)))), .second, .val (.long ((((((q + (719528 : Int64)) - (60 : Int64)) + (1 : Int64)) / (146097 : Int64)) - (1 : Int64)) * (400 : Int64))), .second, .val (.long ((((400 : Int64) * (((q + (719528 : Int64)) - (60 : Int64)) + ((-(((((q + (719528 : Int64)) - (60 : Int64)) + (1 : Int64)) / (146097 : Int64)) - (1 : Int64))) * (146097 : Int64)))) + (591 : Int64)) / (146097 : Int64))), .second, .unset, .unset, .unset, .unset, .unset, .unset] [(.long ((((400 : Int64) * (((q + (719528 : Int64)) - (60 : Int64)) + ((-(((((q + (719528 : Int64)) - (60 : Int64)) + (1 : Int64)) / (146097 : Int64)) - (1 : Int64))) * (146097 : Int64)))) + (591 : Int64)) / (146097 : Int64))), (.long (((365 : Int64) * ((((400 : Int64) * (((q + (719528 : Int64)) - (60 : Int64)) + ((-(((((q + (719528 : Int64)) - (60 : Int64)) + (1 : Int64)) / (146097 : Int64)) - (1 : Int64))) * (146097 : Int64)))) + (591 : Int64)) / (146097 : Int64))) + (((((400 : Int64) * (((q + (719528 : Int64)) - (60 : Int64)) + ((-(((((q + (719528 : Int64)) - (60 : Int64)) + (1 : Int64)) / (146097 : Int64)) - (1 : Int64))) * (146097 : Int64)))) + (591 : Int64)) / (146097 : Int64)) / (4 : Int64)))), (.long (((q + (719528 : Int64)) - (60 : Int64)) + ((-(((((q + (719528 : Int64)) - (60 : Int64)) + (1 : Int64)) / (146097 : Int64)) - (1 : Int64))) * (146097 : Int64))))])) (fun _ hk => XS.lload X2.here hx rfl (hb hby d1_87) rfl  hk) ?_
    refine own_st (V := T2.setTop (mkF m 92 #[.val (.long q), .second, .val (.long (((q + (719528 : Int64)) - (60 : Int64)) + ((-(((((q + (719528 : Int64)) - (60 : Int64)) + (1 : Int64)) / (146097 : Int64)) - (1 : Int64))) * (146097 : Int64)))), .second, .val (.long ((((((q + (719528 : Int64)) - (60 : Int64)) + (1 : Int64)) / (146097 : Int64)) - (1 : Int64)) * (400 : Int64))), .second, .val (.long ((((400 : Int64) * (((q + (719528 : Int64)) - (60 : Int64)) + ((-(((((q + (719528 : Int64)) - (60 : Int64)) + (1 : Int64)) / (146097 : Int64)) - (1 : Int64))) * (146097 : Int64)))) + (591 : Int64)) / (146097 : Int64))), .second, .unset, .unset, .unset, .unset, .unset, .unset] [(.long (100 : Int64)), (.long ((((400 : Int64) * (((q + (719528 : Int64)) - (60 : Int64)) + ((-(((((q + (719528 : Int64)) - (60 : Int64)) + (1 : Int64)) / (146097 : Int64)) - (1 : Int64))) * (146097 : Int64)))) + (591 : Int64)) / (146097 : Int64))), (.long (((365 : Int64) * ((((400 : Int64) * (((q + (719528 : Int64)) - (60 : Int64)) + ((-(((((q + (719528 : Int64)) - (60 : Int64)) + (1 : Int64)) / (146097 : Int64)) - (1 : Int64))) * (146097 : Int64)))) + (591 : Int64)) / (146097 : Int64))) + (((((400 : Int64) * (((q + (719528 : Int64)) - (60 : Int64)) + ((-(((((q + (719528 : Int64)) - (60 : Int64)) + (1 : Int64)) / (146097 : Int64)) - (1 : Int64))) * (146097 : Int64)))) + (591 : Int64)) / (146097 : Int64)) / (4 : Int64)))), (.long (((q + (719528 : Int64)) - (60 : Int64)) + ((-(((((q + (719528 : Int64)) - (60 : Int64)) + (1 : Int64)) / (146097 : Int64)) - (1 : Int64))) * (146097 : Int64))))])) (X2.ldc2Long hx hown (mvT hZ (hw _ (List.mem_of_getElem? (i := 51) rfl))) (g := (mkF m 89 #[.val (.long q), .second, .val (.long (((q + (719528 : Int64)) - (60 : Int64)) + ((-(((((q + (719528 : Int64)) - (60 : Int64)) + (1 : Int64)) / (146097 : Int64)) - (1 : Int64))) * (146097 : Int64)))), .second, .val (.long ((((((q + (719528 : Int64)) - (60 : Int64)) + (1 : Int64)) / (146097 : Int64)) - (1 : Int64)) * (400 : Int64))), .second, .val (.long ((((400 : Int64) * (((q + (719528 : Int64)) - (60 : Int64)) + ((-(((((q + (719528 : Int64)) - (60 : Int64)) + (1 : Int64)) / (146097 : Int64)) - (1 : Int64))) * (146097 : Int64)))) + (591 : Int64)) / (146097 : Int64))), .second, .unset, .unset, .unset, .unset, .unset, .unset] [(.long ((((400 : Int64) * (((q + (719528 : Int64)) - (60 : Int64)) + ((-(((((q + (719528 : Int64)) - (60 : Int64)) + (1 : Int64)) / (146097 : Int64)) - (1 : Int64))) * (146097 : Int64)))) + (591 : Int64)) / (146097 : Int64))), (.long (((365 : Int64) * ((((400 : Int64) * (((q + (719528 : Int64)) - (60 : Int64)) + ((-(((((q + (719528 : Int64)) - (60 : Int64)) + (1 : Int64)) / (146097 : Int64)) - (1 : Int64))) * (146097 : Int64)))) + (591 : Int64)) / (146097 : Int64))) + (((((400 : Int64) * (((q + (719528 : Int64)) - (60 : Int64)) + ((-(((((q + (719528 : Int64)) - (60 : Int64)) + (1 : Int64)) / (146097 : Int64)) - (1 : Int64))) * (146097 : Int64)))) + (591 : Int64)) / (146097 : Int64)) / (4 : Int64)))), (.long (((q + (719528 : Int64)) - (60 : Int64)) + ((-(((((q + (719528 : Int64)) - (60 : Int64)) + (1 : Int64)) / (146097 : Int64)) - (1 : Int64))) * (146097 : Int64))))])) rfl (hb hby d1_89)) ?_
    refine own_st (V := T2.setTop (mkF m 93 #[.val (.long q), .second, .val (.long (((q + (719528 : Int64)) - (60 : Int64)) + ((-(((((q + (719528 : Int64)) - (60 : Int64)) + (1 : Int64)) / (146097 : Int64)) - (1 : Int64))) * (146097 : Int64)))), .second, .val (.long ((((((q + (719528 : Int64)) - (60 : Int64)) + (1 : Int64)) / (146097 : Int64)) - (1 : Int64)) * (400 : Int64))), .second, .val (.long ((((400 : Int64) * (((q + (719528 : Int64)) - (60 : Int64)) + ((-(((((q + (719528 : Int64)) - (60 : Int64)) + (1 : Int64)) / (146097 : Int64)) - (1 : Int64))) * (146097 : Int64)))) + (591 : Int64)) / (146097 : Int64))), .second, .unset, .unset, .unset, .unset, .unset, .unset] [(.long (((((400 : Int64) * (((q + (719528 : Int64)) - (60 : Int64)) + ((-(((((q + (719528 : Int64)) - (60 : Int64)) + (1 : Int64)) / (146097 : Int64)) - (1 : Int64))) * (146097 : Int64)))) + (591 : Int64)) / (146097 : Int64)) / (100 : Int64))), (.long (((365 : Int64) * ((((400 : Int64) * (((q + (719528 : Int64)) - (60 : Int64)) + ((-(((((q + (719528 : Int64)) - (60 : Int64)) + (1 : Int64)) / (146097 : Int64)) - (1 : Int64))) * (146097 : Int64)))) + (591 : Int64)) / (146097 : Int64))) + (((((400 : Int64) * (((q + (719528 : Int64)) - (60 : Int64)) + ((-(((((q + (719528 : Int64)) - (60 : Int64)) + (1 : Int64)) / (146097 : Int64)) - (1 : Int64))) * (146097 : Int64)))) + (591 : Int64)) / (146097 : Int64)) / (4 : Int64)))), (.long (((q + (719528 : Int64)) - (60 : Int64)) + ((-(((((q + (719528 : Int64)) - (60 : Int64)) + (1 : Int64)) / (146097 : Int64)) - (1 : Int64))) * (146097 : Int64))))])) (fun _ hk => XS.ldiv X2.here hx rfl (hb hby d1_92) rfl (by decide) hk) ?_
    refine own_st (V := T2.setTop (mkF m 94 #[.val (.long q), .second, .val (.long (((q + (719528 : Int64)) - (60 : Int64)) + ((-(((((q + (719528 : Int64)) - (60 : Int64)) + (1 : Int64)) / (146097 : Int64)) - (1 : Int64))) * (146097 : Int64)))), .second, .val (.long ((((((q + (719528 : Int64)) - (60 : Int64)) + (1 : Int64)) / (146097 : Int64)) - (1 : Int64)) * (400 : Int64))), .second, .val (.long ((((400 : Int64) * (((q + (719528 : Int64)) - (60 : Int64)) + ((-(((((q + (719528 : Int64)) - (60 : Int64)) + (1 : Int64)) / (146097 : Int64)) - (1 : Int64))) * (146097 : Int64)))) + (591 : Int64)) / (146097 : Int64))), .second, .unset, .unset, .unset, .unset, .unset, .unset] [(.long ((((365 : Int64) * ((((400 : Int64) * (((q + (719528 : Int64)) - (60 : Int64)) + ((-(((((q + (719528 : Int64)) - (60 : Int64)) + (1 : Int64)) / (146097 : Int64)) - (1 : Int64))) * (146097 : Int64)))) + (591 : Int64)) / (146097 : Int64))) + (((((400 : Int64) * (((q + (719528 : Int64)) - (60 : Int64)) + ((-(((((q + (719528 : Int64)) - (60 : Int64)) + (1 : Int64)) / (146097 : Int64)) - (1 : Int64))) * (146097 : Int64)))) + (591 : Int64)) / (146097 : Int64)) / (4 : Int64))) - (((((400 : Int64) * (((q + (719528 : Int64)) - (60 : Int64)) + ((-(((((q + (719528 : Int64)) - (60 : Int64)) + (1 : Int64)) / (146097 : Int64)) - (1 : Int64))) * (146097 : Int64)))) + (591 : Int64)) / (146097 : Int64)) / (100 : Int64)))), (.long (((q + (719528 : Int64)) - (60 : Int64)) + ((-(((((q + (719528 : Int64)) - (60 : Int64)) + (1 : Int64)) / (146097 : Int64)) - (1 : Int64))) * (146097 : Int64))))])) (fun _ hk => XS.lsub X2.here hx rfl (hb hby d1_93) rfl hk) ?_
    refine own_st (V := T2.setTop (mkF m 96 #[.val (.long q), .second, .val (.long (((q + (719528 : Int64)) - (60 : Int64)) + ((-(((((q + (719528 : Int64)) - (60 : Int64)) + (1 : Int64)) / (146097 : Int64)) - (1 : Int64))) * (146097 : Int64)))), .second, .val (.long ((((((q + (719528 : Int64)) - (60 : Int64)) + (1 : Int64)) / (146097 : Int64)) - (1 : Int64)) * (400 : Int64))), .second, .val (.long ((((400 : Int64) * (((q + (719528 : Int64)) - (60 : Int64)) + ((-(((((q + (719528 : Int64)) - (60 : Int64)) + (1 : Int64)) / (146097 : Int64)) - (1 : Int64))) * (146097 : Int64)))) + (591 : Int64)) / (146097 : Int64))), .second, .unset, .unset, .unset, .unset, .unset, .unset] [(.long ((((400 : Int64) * (((q + (719528 : Int64)) - (60 : Int64)) + ((-(((((q + (719528 : Int64)) - (60 : Int64)) + (1 : Int64)) / (146097 : Int64)) - (1 : Int64))) * (146097 : Int64)))) + (591 : Int64)) / (146097 : Int64))), (.long ((((365 : Int64) * ((((400 : Int64) * (((q + (719528 : Int64)) - (60 : Int64)) + ((-(((((q + (719528 : Int64)) - (60 : Int64)) + (1 : Int64)) / (146097 : Int64)) - (1 : Int64))) * (146097 : Int64)))) + (591 : Int64)) / (146097 : Int64))) + (((((400 : Int64) * (((q + (719528 : Int64)) - (60 : Int64)) + ((-(((((q + (719528 : Int64)) - (60 : Int64)) + (1 : Int64)) / (146097 : Int64)) - (1 : Int64))) * (146097 : Int64)))) + (591 : Int64)) / (146097 : Int64)) / (4 : Int64))) - (((((400 : Int64) * (((q + (719528 : Int64)) - (60 : Int64)) + ((-(((((q + (719528 : Int64)) - (60 : Int64)) + (1 : Int64)) / (146097 : Int64)) - (1 : Int64))) * (146097 : Int64)))) + (591 : Int64)) / (146097 : Int64)) / (100 : Int64)))), (.long (((q + (719528 : Int64)) - (60 : Int64)) + ((-(((((q + (719528 : Int64)) - (60 : Int64)) + (1 : Int64)) / (146097 : Int64)) - (1 : Int64))) * (146097 : Int64))))])) (fun _ hk => XS.lload X2.here hx rfl (hb hby d1_94) rfl  hk) ?_
    refine own_st (V := T2.setTop (mkF m 99 #[.val (.long q), .second, .val (.long (((q + (719528 : Int64)) - (60 : Int64)) + ((-(((((q + (719528 : Int64)) - (60 : Int64)) + (1 : Int64)) / (146097 : Int64)) - (1 : Int64))) * (146097 : Int64)))), .second, .val (.long ((((((q + (719528 : Int64)) - (60 : Int64)) + (1 : Int64)) / (146097 : Int64)) - (1 : Int64)) * (400 : Int64))), .second, .val (.long ((((400 : Int64) * (((q + (719528 : Int64)) - (60 : Int64)) + ((-(((((q + (719528 : Int64)) - (60 : Int64)) + (1 : Int64)) / (146097 : Int64)) - (1 : Int64))) * (146097 : Int64)))) + (591 : Int64)) / (146097 : Int64))), .second, .unset, .unset, .unset, .unset, .unset, .unset] [(.long (400 : Int64)), (.long ((((400 : Int64) * (((q + (719528 : Int64)) - (60 : Int64)) + ((-(((((q + (719528 : Int64)) - (60 : Int64)) + (1 : Int64)) / (146097 : Int64)) - (1 : Int64))) * (146097 : Int64)))) + (591 : Int64)) / (146097 : Int64))), (.long ((((365 : Int64) * ((((400 : Int64) * (((q + (719528 : Int64)) - (60 : Int64)) + ((-(((((q + (719528 : Int64)) - (60 : Int64)) + (1 : Int64)) / (146097 : Int64)) - (1 : Int64))) * (146097 : Int64)))) + (591 : Int64)) / (146097 : Int64))) + (((((400 : Int64) * (((q + (719528 : Int64)) - (60 : Int64)) + ((-(((((q + (719528 : Int64)) - (60 : Int64)) + (1 : Int64)) / (146097 : Int64)) - (1 : Int64))) * (146097 : Int64)))) + (591 : Int64)) / (146097 : Int64)) / (4 : Int64))) - (((((400 : Int64) * (((q + (719528 : Int64)) - (60 : Int64)) + ((-(((((q + (719528 : Int64)) - (60 : Int64)) + (1 : Int64)) / (146097 : Int64)) - (1 : Int64))) * (146097 : Int64)))) + (591 : Int64)) / (146097 : Int64)) / (100 : Int64)))), (.long (((q + (719528 : Int64)) - (60 : Int64)) + ((-(((((q + (719528 : Int64)) - (60 : Int64)) + (1 : Int64)) / (146097 : Int64)) - (1 : Int64))) * (146097 : Int64))))])) (X2.ldc2Long hx hown (mvT hZ (hw _ (List.mem_of_getElem? (i := 46) rfl))) (g := (mkF m 96 #[.val (.long q), .second, .val (.long (((q + (719528 : Int64)) - (60 : Int64)) + ((-(((((q + (719528 : Int64)) - (60 : Int64)) + (1 : Int64)) / (146097 : Int64)) - (1 : Int64))) * (146097 : Int64)))), .second, .val (.long ((((((q + (719528 : Int64)) - (60 : Int64)) + (1 : Int64)) / (146097 : Int64)) - (1 : Int64)) * (400 : Int64))), .second, .val (.long ((((400 : Int64) * (((q + (719528 : Int64)) - (60 : Int64)) + ((-(((((q + (719528 : Int64)) - (60 : Int64)) + (1 : Int64)) / (146097 : Int64)) - (1 : Int64))) * (146097 : Int64)))) + (591 : Int64)) / (146097 : Int64))), .second, .unset, .unset, .unset, .unset, .unset, .unset] [(.long ((((400 : Int64) * (((q + (719528 : Int64)) - (60 : Int64)) + ((-(((((q + (719528 : Int64)) - (60 : Int64)) + (1 : Int64)) / (146097 : Int64)) - (1 : Int64))) * (146097 : Int64)))) + (591 : Int64)) / (146097 : Int64))), (.long ((((365 : Int64) * ((((400 : Int64) * (((q + (719528 : Int64)) - (60 : Int64)) + ((-(((((q + (719528 : Int64)) - (60 : Int64)) + (1 : Int64)) / (146097 : Int64)) - (1 : Int64))) * (146097 : Int64)))) + (591 : Int64)) / (146097 : Int64))) + (((((400 : Int64) * (((q + (719528 : Int64)) - (60 : Int64)) + ((-(((((q + (719528 : Int64)) - (60 : Int64)) + (1 : Int64)) / (146097 : Int64)) - (1 : Int64))) * (146097 : Int64)))) + (591 : Int64)) / (146097 : Int64)) / (4 : Int64))) - (((((400 : Int64) * (((q + (719528 : Int64)) - (60 : Int64)) + ((-(((((q + (719528 : Int64)) - (60 : Int64)) + (1 : Int64)) / (146097 : Int64)) - (1 : Int64))) * (146097 : Int64)))) + (591 : Int64)) / (146097 : Int64)) / (100 : Int64)))), (.long (((q + (719528 : Int64)) - (60 : Int64)) + ((-(((((q + (719528 : Int64)) - (60 : Int64)) + (1 : Int64)) / (146097 : Int64)) - (1 : Int64))) * (146097 : Int64))))])) rfl (hb hby d1_96)) ?_
    refine own_st (V := T2.setTop (mkF m 100 #[.val (.long q), .second, .val (.long (((q + (719528 : Int64)) - (60 : Int64)) + ((-(((((q + (719528 : Int64)) - (60 : Int64)) + (1 : Int64)) / (146097 : Int64)) - (1 : Int64))) * (146097 : Int64)))), .second, .val (.long ((((((q + (719528 : Int64)) - (60 : Int64)) + (1 : Int64)) / (146097 : Int64)) - (1 : Int64)) * (400 : Int64))), .second, .val (.long ((((400 : Int64) * (((q + (719528 : Int64)) - (60 : Int64)) + ((-(((((q + (719528 : Int64)) - (60 : Int64)) + (1 : Int64)) / (146097 : Int64)) - (1 : Int64))) * (146097 : Int64)))) + (591 : Int64)) / (146097 : Int64))), .second, .unset, .unset, .unset, .unset, .unset, .unset] [(.long (((((400 : Int64) * (((q + (719528 : Int64)) - (60 : Int64)) + ((-(((((q + (719528 : Int64)) - (60 : Int64)) + (1 : Int64)) / (146097 : Int64)) - (1 : Int64))) * (146097 : Int64)))) + (591 : Int64)) / (146097 : Int64)) / (400 : Int64))), (.long ((((365 : Int64) * ((((400 : Int64) * (((q + (719528 : Int64)) - (60 : Int64)) + ((-(((((q + (719528 : Int64)) - (60 : Int64)) + (1 : Int64)) / (146097 : Int64)) - (1 : Int64))) * (146097 : Int64)))) + (591 : Int64)) / (146097 : Int64))) + (((((400 : Int64) * (((q + (719528 : Int64)) - (60 : Int64)) + ((-(((((q + (719528 : Int64)) - (60 : Int64)) + (1 : Int64)) / (146097 : Int64)) - (1 : Int64))) * (146097 : Int64)))) + (591 : Int64)) / (146097 : Int64)) / (4 : Int64))) - (((((400 : Int64) * (((q + (719528 : Int64)) - (60 : Int64)) + ((-(((((q + (719528 : Int64)) - (60 : Int64)) + (1 : Int64)) / (146097 : Int64)) - (1 : Int64))) * (146097 : Int64)))) + (591 : Int64)) / (146097 : Int64)) / (100 : Int64)))), (.long (((q + (719528 : Int64)) - (60 : Int64)) + ((-(((((q + (719528 : Int64)) - (60 : Int64)) + (1 : Int64)) / (146097 : Int64)) - (1 : Int64))) * (146097 : Int64))))])) (fun _ hk => XS.ldiv X2.here hx rfl (hb hby d1_99) rfl (by decide) hk) ?_
    refine own_st (V := T2.setTop (mkF m 101 #[.val (.long q), .second, .val (.long (((q + (719528 : Int64)) - (60 : Int64)) + ((-(((((q + (719528 : Int64)) - (60 : Int64)) + (1 : Int64)) / (146097 : Int64)) - (1 : Int64))) * (146097 : Int64)))), .second, .val (.long ((((((q + (719528 : Int64)) - (60 : Int64)) + (1 : Int64)) / (146097 : Int64)) - (1 : Int64)) * (400 : Int64))), .second, .val (.long ((((400 : Int64) * (((q + (719528 : Int64)) - (60 : Int64)) + ((-(((((q + (719528 : Int64)) - (60 : Int64)) + (1 : Int64)) / (146097 : Int64)) - (1 : Int64))) * (146097 : Int64)))) + (591 : Int64)) / (146097 : Int64))), .second, .unset, .unset, .unset, .unset, .unset, .unset] [(.long (((((365 : Int64) * ((((400 : Int64) * (((q + (719528 : Int64)) - (60 : Int64)) + ((-(((((q + (719528 : Int64)) - (60 : Int64)) + (1 : Int64)) / (146097 : Int64)) - (1 : Int64))) * (146097 : Int64)))) + (591 : Int64)) / (146097 : Int64))) + (((((400 : Int64) * (((q + (719528 : Int64)) - (60 : Int64)) + ((-(((((q + (719528 : Int64)) - (60 : Int64)) + (1 : Int64)) / (146097 : Int64)) - (1 : Int64))) * (146097 : Int64)))) + (591 : Int64)) / (146097 : Int64)) / (4 : Int64))) - (((((400 : Int64) * (((q + (719528 : Int64)) - (60 : Int64)) + ((-(((((q + (719528 : Int64)) - (60 : Int64)) + (1 : Int64)) / (146097 : Int64)) - (1 : Int64))) * (146097 : Int64)))) + (591 : Int64)) / (146097 : Int64)) / (100 : Int64))) + (((((400 : Int64) * (((q + (719528 : Int64)) - (60 : Int64)) + ((-(((((q + (719528 : Int64)) - (60 : Int64)) + (1 : Int64)) / (146097 : Int64)) - (1 : Int64))) * (146097 : Int64)))) + (591 : Int64)) / (146097 : Int64)) / (400 : Int64)))), (.long (((q + (719528 : Int64)) - (60 : Int64)) + ((-(((((q + (719528 : Int64)) - (60 : Int64)) + (1 : Int64)) / (146097 : Int64)) - (1 : Int64))) * (146097 : Int64))))])) (fun _ hk => XS.ladd X2.here hx rfl (hb hby d1_100) rfl hk) ?_
    refine own_st (V := T2.setTop (mkF m 102 #[.val (.long q), .second, .val (.long (((q + (719528 : Int64)) - (60 : Int64)) + ((-(((((q + (719528 : Int64)) - (60 : Int64)) + (1 : Int64)) / (146097 : Int64)) - (1 : Int64))) * (146097 : Int64)))), .second, .val (.long ((((((q + (719528 : Int64)) - (60 : Int64)) + (1 : Int64)) / (146097 : Int64)) - (1 : Int64)) * (400 : Int64))), .second, .val (.long ((((400 : Int64) * (((q + (719528 : Int64)) - (60 : Int64)) + ((-(((((q + (719528 : Int64)) - (60 : Int64)) + (1 : Int64)) / (146097 : Int64)) - (1 : Int64))) * (146097 : Int64)))) + (591 : Int64)) / (146097 : Int64))), .second, .unset, .unset, .unset, .unset, .unset, .unset] [(.long ((((q + (719528 : Int64)) - (60 : Int64)) + ((-(((((q + (719528 : Int64)) - (60 : Int64)) + (1 : Int64)) / (146097 : Int64)) - (1 : Int64))) * (146097 : Int64))) - (((((365 : Int64) * ((((400 : Int64) * (((q + (719528 : Int64)) - (60 : Int64)) + ((-(((((q + (719528 : Int64)) - (60 : Int64)) + (1 : Int64)) / (146097 : Int64)) - (1 : Int64))) * (146097 : Int64)))) + (591 : Int64)) / (146097 : Int64))) + (((((400 : Int64) * (((q + (719528 : Int64)) - (60 : Int64)) + ((-(((((q + (719528 : Int64)) - (60 : Int64)) + (1 : Int64)) / (146097 : Int64)) - (1 : Int64))) * (146097 : Int64)))) + (591 : Int64)) / (146097 : Int64)) / (4 : Int64))) - (((((400 : Int64) * (((q + (719528 : Int64)) - (60 : Int64)) + ((-(((((q + (719528 : Int64)) - (60 : Int64)) + (1 : Int64)) / (146097 : Int64)) - (1 : Int64))) * (146097 : Int64)))) + (591 : Int64)) / (146097 : Int64)) / (100 : Int64))) + (((((400 : Int64) * (((q + (719528 : Int64)) - (60 : Int64)) + ((-(((((q + (719528 : Int64)) - (60 : Int64)) + (1 : Int64)) / (146097 : Int64)) - (1 : Int64))) * (146097 : Int64)))) + (591 : Int64)) / (146097 : Int64)) / (400 : Int64)))))])) (fun _ hk => XS.lsub X2.here hx rfl (hb hby d1_101) rfl hk) ?_
    refine own_st (V := T2.setTop (mkF m 104 #[.val (.long q), .second, .val (.long (((q + (719528 : Int64)) - (60 : Int64)) + ((-(((((q + (719528 : Int64)) - (60 : Int64)) + (1 : Int64)) / (146097 : Int64)) - (1 : Int64))) * (146097 : Int64)))), .second, .val (.long ((((((q + (719528 : Int64)) - (60 : Int64)) + (1 : Int64)) / (146097 : Int64)) - (1 : Int64)) * (400 : Int64))), .second, .val (.long ((((400 : Int64) * (((q + (719528 : Int64)) - (60 : Int64)) + ((-(((((q + (719528 : Int64)) - (60 : Int64)) + (1 : Int64)) / (146097 : Int64)) - (1 : Int64))) * (146097 : Int64)))) + (591 : Int64)) / (146097 : Int64))), .second, .val (.long ((((q + (719528 : Int64)) - (60 : Int64)) + ((-(((((q + (719528 : Int64)) - (60 : Int64)) + (1 : Int64)) / (146097 : Int64)) - (1 : Int64))) * (146097 : Int64))) - (((((365 : Int64) * ((((400 : Int64) * (((q + (719528 : Int64)) - (60 : Int64)) + ((-(((((q + (719528 : Int64)) - (60 : Int64)) + (1 : Int64)) / (146097 : Int64)) - (1 : Int64))) * (146097 : Int64)))) + (591 : Int64)) / (146097 : Int64))) + (((((400 : Int64) * (((q + (719528 : Int64)) - (60 : Int64)) + ((-(((((q + (719528 : Int64)) - (60 : Int64)) + (1 : Int64)) / (146097 : Int64)) - (1 : Int64))) * (146097 : Int64)))) + (591 : Int64)) / (146097 : Int64)) / (4 : Int64))) - (((((400 : Int64) * (((q + (719528 : Int64)) - (60 : Int64)) + ((-(((((q + (719528 : Int64)) - (60 : Int64)) + (1 : Int64)) / (146097 : Int64)) - (1 : Int64))) * (146097 : Int64)))) + (591 : Int64)) / (146097 : Int64)) / (100 : Int64))) + (((((400 : Int64) * (((q + (719528 : Int64)) - (60 : Int64)) + ((-(((((q + (719528 : Int64)) - (60 : Int64)) + (1 : Int64)) / (146097 : Int64)) - (1 : Int64))) * (146097 : Int64)))) + (591 : Int64)) / (146097 : Int64)) / (400 : Int64))))), .second, .unset, .unset, .unset, .unset] [])) (fun _ hk => XS.lstore X2.here hx rfl (hb hby d1_102) rfl  (l' := #[.val (.long q), .second, .val (.long (((q + (719528 : Int64)) - (60 : Int64)) + ((-(((((q + (719528 : Int64)) - (60 : Int64)) + (1 : Int64)) / (146097 : Int64)) - (1 : Int64))) * (146097 : Int64)))), .second, .val (.long ((((((q + (719528 : Int64)) - (60 : Int64)) + (1 : Int64)) / (146097 : Int64)) - (1 : Int64)) * (400 : Int64))), .second, .val (.long ((((400 : Int64) * (((q + (719528 : Int64)) - (60 : Int64)) + ((-(((((q + (719528 : Int64)) - (60 : Int64)) + (1 : Int64)) / (146097 : Int64)) - (1 : Int64))) * (146097 : Int64)))) + (591 : Int64)) / (146097 : Int64))), .second, .val (.long ((((q + (719528 : Int64)) - (60 : Int64)) + ((-(((((q + (719528 : Int64)) - (60 : Int64)) + (1 : Int64)) / (146097 : Int64)) - (1 : Int64))) * (146097 : Int64))) - (((((365 : Int64) * ((((400 : Int64) * (((q + (719528 : Int64)) - (60 : Int64)) + ((-(((((q + (719528 : Int64)) - (60 : Int64)) + (1 : Int64)) / (146097 : Int64)) - (1 : Int64))) * (146097 : Int64)))) + (591 : Int64)) / (146097 : Int64))) + (((((400 : Int64) * (((q + (719528 : Int64)) - (60 : Int64)) + ((-(((((q + (719528 : Int64)) - (60 : Int64)) + (1 : Int64)) / (146097 : Int64)) - (1 : Int64))) * (146097 : Int64)))) + (591 : Int64)) / (146097 : Int64)) / (4 : Int64))) - (((((400 : Int64) * (((q + (719528 : Int64)) - (60 : Int64)) + ((-(((((q + (719528 : Int64)) - (60 : Int64)) + (1 : Int64)) / (146097 : Int64)) - (1 : Int64))) * (146097 : Int64)))) + (591 : Int64)) / (146097 : Int64)) / (100 : Int64))) + (((((400 : Int64) * (((q + (719528 : Int64)) - (60 : Int64)) + ((-(((((q + (719528 : Int64)) - (60 : Int64)) + (1 : Int64)) / (146097 : Int64)) - (1 : Int64))) * (146097 : Int64)))) + (591 : Int64)) / (146097 : Int64)) / (400 : Int64))))), .second, .unset, .unset, .unset, .unset]) rfl hk) ?_
    refine own_st (V := T2.setTop (mkF m 106 #[.val (.long q), .second, .val (.long (((q + (719528 : Int64)) - (60 : Int64)) + ((-(((((q + (719528 : Int64)) - (60 : Int64)) + (1 : Int64)) / (146097 : Int64)) - (1 : Int64))) * (146097 : Int64)))), .second, .val (.long ((((((q + (719528 : Int64)) - (60 : Int64)) + (1 : Int64)) / (146097 : Int64)) - (1 : Int64)) * (400 : Int64))), .second, .val (.long ((((400 : Int64) * (((q + (719528 : Int64)) - (60 : Int64)) + ((-(((((q + (719528 : Int64)) - (60 : Int64)) + (1 : Int64)) / (146097 : Int64)) - (1 : Int64))) * (146097 : Int64)))) + (591 : Int64)) / (146097 : Int64))), .second, .val (.long ((((q + (719528 : Int64)) - (60 : Int64)) + ((-(((((q + (719528 : Int64)) - (60 : Int64)) + (1 : Int64)) / (146097 : Int64)) - (1 : Int64))) * (146097 : Int64))) - (((((365 : Int64) * ((((400 : Int64) * (((q + (719528 : Int64)) - (60 : Int64)) + ((-(((((q + (719528 : Int64)) - (60 : Int64)) + (1 : Int64)) / (146097 : Int64)) - (1 : Int64))) * (146097 : Int64)))) + (591 : Int64)) / (146097 : Int64))) + (((((400 : Int64) * (((q + (719528 : Int64)) - (60 : Int64)) + ((-(((((q + (719528 : Int64)) - (60 : Int64)) + (1 : Int64)) / (146097 : Int64)) - (1 : Int64))) * (146097 : Int64)))) + (591 : Int64)) / (146097 : Int64)) / (4 : Int64))) - (((((400 : Int64) * (((q + (719528 : Int64)) - (60 : Int64)) + ((-(((((q + (719528 : Int64)) - (60 : Int64)) + (1 : Int64)) / (146097 : Int64)) - (1 : Int64))) * (146097 : Int64)))) + (591 : Int64)) / (146097 : Int64)) / (100 : Int64))) + (((((400 : Int64) * (((q + (719528 : Int64)) - (60 : Int64)) + ((-(((((q + (719528 : Int64)) - (60 : Int64)) + (1 : Int64)) / (146097 : Int64)) - (1 : Int64))) * (146097 : Int64)))) + (591 : Int64)) / (146097 : Int64)) / (400 : Int64))))), .second, .unset, .unset, .unset, .unset] [(.long ((((q + (719528 : Int64)) - (60 : Int64)) + ((-(((((q + (719528 : Int64)) - (60 : Int64)) + (1 : Int64)) / (146097 : Int64)) - (1 : Int64))) * (146097 : Int64))) - (((((365 : Int64) * ((((400 : Int64) * (((q + (719528 : Int64)) - (60 : Int64)) + ((-(((((q + (719528 : Int64)) - (60 : Int64)) + (1 : Int64)) / (146097 : Int64)) - (1 : Int64))) * (146097 : Int64)))) + (591 : Int64)) / (146097 : Int64))) + (((((400 : Int64) * (((q + (719528 : Int64)) - (60 : Int64)) + ((-(((((q + (719528 : Int64)) - (60 : Int64)) + (1 : Int64)) / (146097 : Int64)) - (1 : Int64))) * (146097 : Int64)))) + (591 : Int64)) / (146097 : Int64)) / (4 : Int64))) - (((((400 : Int64) * (((q + (719528 : Int64)) - (60 : Int64)) + ((-(((((q + (719528 : Int64)) - (60 : Int64)) + (1 : Int64)) / (146097 : Int64)) - (1 : Int64))) * (146097 : Int64)))) + (591 : Int64)) / (146097 : Int64)) / (100 : Int64))) + (((((400 : Int64) * (((q + (719528 : Int64)) - (60 : Int64)) + ((-(((((q + (719528 : Int64)) - (60 : Int64)) + (1 : Int64)) / (146097 : Int64)) - (1 : Int64))) * (146097 : Int64)))) + (591 : Int64)) / (146097 : Int64)) / (400 : Int64)))))])) (fun _ hk => XS.lload X2.here hx rfl (hb hby d1_104) rfl  hk) ?_
    refine own_st (V := T2.setTop (mkF m 107 #[.val (.long q), .second, .val (.long (((q + (719528 : Int64)) - (60 : Int64)) + ((-(((((q + (719528 : Int64)) - (60 : Int64)) + (1 : Int64)) / (146097 : Int64)) - (1 : Int64))) * (146097 : Int64)))), .second, .val (.long ((((((q + (719528 : Int64)) - (60 : Int64)) + (1 : Int64)) / (146097 : Int64)) - (1 : Int64)) * (400 : Int64))), .second, .val (.long ((((400 : Int64) * (((q + (719528 : Int64)) - (60 : Int64)) + ((-(((((q + (719528 : Int64)) - (60 : Int64)) + (1 : Int64)) / (146097 : Int64)) - (1 : Int64))) * (146097 : Int64)))) + (591 : Int64)) / (146097 : Int64))), .second, .val (.long ((((q + (719528 : Int64)) - (60 : Int64)) + ((-(((((q + (719528 : Int64)) - (60 : Int64)) + (1 : Int64)) / (146097 : Int64)) - (1 : Int64))) * (146097 : Int64))) - (((((365 : Int64) * ((((400 : Int64) * (((q + (719528 : Int64)) - (60 : Int64)) + ((-(((((q + (719528 : Int64)) - (60 : Int64)) + (1 : Int64)) / (146097 : Int64)) - (1 : Int64))) * (146097 : Int64)))) + (591 : Int64)) / (146097 : Int64))) + (((((400 : Int64) * (((q + (719528 : Int64)) - (60 : Int64)) + ((-(((((q + (719528 : Int64)) - (60 : Int64)) + (1 : Int64)) / (146097 : Int64)) - (1 : Int64))) * (146097 : Int64)))) + (591 : Int64)) / (146097 : Int64)) / (4 : Int64))) - (((((400 : Int64) * (((q + (719528 : Int64)) - (60 : Int64)) + ((-(((((q + (719528 : Int64)) - (60 : Int64)) + (1 : Int64)) / (146097 : Int64)) - (1 : Int64))) * (146097 : Int64)))) + (591 : Int64)) / (146097 : Int64)) / (100 : Int64))) + (((((400 : Int64) * (((q + (719528 : Int64)) - (60 : Int64)) + ((-(((((q + (719528 : Int64)) - (60 : Int64)) + (1 : Int64)) / (146097 : Int64)) - (1 : Int64))) * (146097 : Int64)))) + (591 : Int64)) / (146097 : Int64)) / (400 : Int64))))), .second, .unset, .unset, .unset, .unset] [(.long (0 : Int64)), (.long ((((q + (719528 : Int64)) - (60 : Int64)) + ((-(((((q + (719528 : Int64)) - (60 : Int64)) + (1 : Int64)) / (146097 : Int64)) - (1 : Int64))) * (146097 : Int64))) - (((((365 : Int64) * ((((400 : Int64) * (((q + (719528 : Int64)) - (60 : Int64)) + ((-(((((q + (719528 : Int64)) - (60 : Int64)) + (1 : Int64)) / (146097 : Int64)) - (1 : Int64))) * (146097 : Int64)))) + (591 : Int64)) / (146097 : Int64))) + (((((400 : Int64) * (((q + (719528 : Int64)) - (60 : Int64)) + ((-(((((q + (719528 : Int64)) - (60 : Int64)) + (1 : Int64)) / (146097 : Int64)) - (1 : Int64))) * (146097 : Int64)))) + (591 : Int64)) / (146097 : Int64)) / (4 : Int64))) - (((((400 : Int64) * (((q + (719528 : Int64)) - (60 : Int64)) + ((-(((((q + (719528 : Int64)) - (60 : Int64)) + (1 : Int64)) / (146097 : Int64)) - (1 : Int64))) * (146097 : Int64)))) + (591 : Int64)) / (146097 : Int64)) / (100 : Int64))) + (((((400 : Int64) * (((q + (719528 : Int64)) - (60 : Int64)) + ((-(((((q + (719528 : Int64)) - (60 : Int64)) + (1 : Int64)) / (146097 : Int64)) - (1 : Int64))) * (146097 : Int64)))) + (591 : Int64)) / (146097 : Int64)) / (400 : Int64)))))])) (fun _ hk => XS.lconst X2.here hx rfl (hb hby d1_106) hk) ?_
    refine own_st (V := T2.setTop (mkF m 108 #[.val (.long q), .second, .val (.long (((q + (719528 : Int64)) - (60 : Int64)) + ((-(((((q + (719528 : Int64)) - (60 : Int64)) + (1 : Int64)) / (146097 : Int64)) - (1 : Int64))) * (146097 : Int64)))), .second, .val (.long ((((((q + (719528 : Int64)) - (60 : Int64)) + (1 : Int64)) / (146097 : Int64)) - (1 : Int64)) * (400 : Int64))), .second, .val (.long ((((400 : Int64) * (((q + (719528 : Int64)) - (60 : Int64)) + ((-(((((q + (719528 : Int64)) - (60 : Int64)) + (1 : Int64)) / (146097 : Int64)) - (1 : Int64))) * (146097 : Int64)))) + (591 : Int64)) / (146097 : Int64))), .second, .val (.long ((((q + (719528 : Int64)) - (60 : Int64)) + ((-(((((q + (719528 : Int64)) - (60 : Int64)) + (1 : Int64)) / (146097 : Int64)) - (1 : Int64))) * (146097 : Int64))) - (((((365 : Int64) * ((((400 : Int64) * (((q + (719528 : Int64)) - (60 : Int64)) + ((-(((((q + (719528 : Int64)) - (60 : Int64)) + (1 : Int64)) / (146097 : Int64)) - (1 : Int64))) * (146097 : Int64)))) + (591 : Int64)) / (146097 : Int64))) + (((((400 : Int64) * (((q + (719528 : Int64)) - (60 : Int64)) + ((-(((((q + (719528 : Int64)) - (60 : Int64)) + (1 : Int64)) / (146097 : Int64)) - (1 : Int64))) * (146097 : Int64)))) + (591 : Int64)) / (146097 : Int64)) / (4 : Int64))) - (((((400 : Int64) * (((q + (719528 : Int64)) - (60 : Int64)) + ((-(((((q + (719528 : Int64)) - (60 : Int64)) + (1 : Int64)) / (146097 : Int64)) - (1 : Int64))) * (146097 : Int64)))) + (591 : Int64)) / (146097 : Int64)) / (100 : Int64))) + (((((400 : Int64) * (((q + (719528 : Int64)) - (60 : Int64)) + ((-(((((q + (719528 : Int64)) - (60 : Int64)) + (1 : Int64)) / (146097 : Int64)) - (1 : Int64))) * (146097 : Int64)))) + (591 : Int64)) / (146097 : Int64)) / (400 : Int64))))), .second, .unset, .unset, .unset, .unset] [(.int (lcmpW ((((q + (719528 : Int64)) - (60 : Int64)) + ((-(((((q + (719528 : Int64)) - (60 : Int64)) + (1 : Int64)) / (146097 : Int64)) - (1 : Int64))) * (146097 : Int64))) - (((((365 : Int64) * ((((400 : Int64) * (((q + (719528 : Int64)) - (60 : Int64)) + ((-(((((q + (719528 : Int64)) - (60 : Int64)) + (1 : Int64)) / (146097 : Int64)) - (1 : Int64))) * (146097 : Int64)))) + (591 : Int64)) / (146097 : Int64))) + (((((400 : Int64) * (((q + (719528 : Int64)) - (60 : Int64)) + ((-(((((q + (719528 : Int64)) - (60 : Int64)) + (1 : Int64)) / (146097 : Int64)) - (1 : Int64))) * (146097 : Int64)))) + (591 : Int64)) / (146097 : Int64)) / (4 : Int64))) - (((((400 : Int64) * (((q + (719528 : Int64)) - (60 : Int64)) + ((-(((((q + (719528 : Int64)) - (60 : Int64)) + (1 : Int64)) / (146097 : Int64)) - (1 : Int64))) * (146097 : Int64)))) + (591 : Int64)) / (146097 : Int64)) / (100 : Int64))) + (((((400 : Int64) * (((q + (719528 : Int64)) - (60 : Int64)) + ((-(((((q + (719528 : Int64)) - (60 : Int64)) + (1 : Int64)) / (146097 : Int64)) - (1 : Int64))) * (146097 : Int64)))) + (591 : Int64)) / (146097 : Int64)) / (400 : Int64)))) (0 : Int64)))])) (fun _ hk => XS.lcmp X2.here hx rfl (hb hby d1_107) rfl hk) ?_
    by_cases hc108 : (lcmpW ((((q + (719528 : Int64)) - (60 : Int64)) + ((-(((((q + (719528 : Int64)) - (60 : Int64)) + (1 : Int64)) / (146097 : Int64)) - (1 : Int64))) * (146097 : Int64))) - (((((365 : Int64) * ((((400 : Int64) * (((q + (719528 : Int64)) - (60 : Int64)) + ((-(((((q + (719528 : Int64)) - (60 : Int64)) + (1 : Int64)) / (146097 : Int64)) - (1 : Int64))) * (146097 : Int64)))) + (591 : Int64)) / (146097 : Int64))) + (((((400 : Int64) * (((q + (719528 : Int64)) - (60 : Int64)) + ((-(((((q + (719528 : Int64)) - (60 : Int64)) + (1 : Int64)) / (146097 : Int64)) - (1 : Int64))) * (146097 : Int64)))) + (591 : Int64)) / (146097 : Int64)) / (4 : Int64))) - (((((400 : Int64) * (((q + (719528 : Int64)) - (60 : Int64)) + ((-(((((q + (719528 : Int64)) - (60 : Int64)) + (1 : Int64)) / (146097 : Int64)) - (1 : Int64))) * (146097 : Int64)))) + (591 : Int64)) / (146097 : Int64)) / (100 : Int64))) + (((((400 : Int64) * (((q + (719528 : Int64)) - (60 : Int64)) + ((-(((((q + (719528 : Int64)) - (60 : Int64)) + (1 : Int64)) / (146097 : Int64)) - (1 : Int64))) * (146097 : Int64)))) + (591 : Int64)) / (146097 : Int64)) / (400 : Int64)))) (0 : Int64)) < (0 : Int32)
    · skip
      refine own_st (V := T2.setTop (mkF m 111 #[.val (.long q), .second, .val (.long (((q + (719528 : Int64)) - (60 : Int64)) + ((-(((((q + (719528 : Int64)) - (60 : Int64)) + (1 : Int64)) / (146097 : Int64)) - (1 : Int64))) * (146097 : Int64)))), .second, .val (.long ((((((q + (719528 : Int64)) - (60 : Int64)) + (1 : Int64)) / (146097 : Int64)) - (1 : Int64)) * (400 : Int64))), .second, .val (.long ((((400 : Int64) * (((q + (719528 : Int64)) - (60 : Int64)) + ((-(((((q + (719528 : Int64)) - (60 : Int64)) + (1 : Int64)) / (146097 : Int64)) - (1 : Int64))) * (146097 : Int64)))) + (591 : Int64)) / (146097 : Int64))), .second, .val (.long ((((q + (719528 : Int64)) - (60 : Int64)) + ((-(((((q + (719528 : Int64)) - (60 : Int64)) + (1 : Int64)) / (146097 : Int64)) - (1 : Int64))) * (146097 : Int64))) - (((((365 : Int64) * ((((400 : Int64) * (((q + (719528 : Int64)) - (60 : Int64)) + ((-(((((q + (719528 : Int64)) - (60 : Int64)) + (1 : Int64)) / (146097 : Int64)) - (1 : Int64))) * (146097 : Int64)))) + (591 : Int64)) / (146097 : Int64))) + (((((400 : Int64) * (((q + (719528 : Int64)) - (60 : Int64)) + ((-(((((q + (719528 : Int64)) - (60 : Int64)) + (1 : Int64)) / (146097 : Int64)) - (1 : Int64))) * (146097 : Int64)))) + (591 : Int64)) / (146097 : Int64)) / (4 : Int64))) - (((((400 : Int64) * (((q + (719528 : Int64)) - (60 : Int64)) + ((-(((((q + (719528 : Int64)) - (60 : Int64)) + (1 : Int64)) / (146097 : Int64)) - (1 : Int64))) * (146097 : Int64)))) + (591 : Int64)) / (146097 : Int64)) / (100 : Int64))) + (((((400 : Int64) * (((q + (719528 : Int64)) - (60 : Int64)) + ((-(((((q + (719528 : Int64)) - (60 : Int64)) + (1 : Int64)) / (146097 : Int64)) - (1 : Int64))) * (146097 : Int64)))) + (591 : Int64)) / (146097 : Int64)) / (400 : Int64))))), .second, .unset, .unset, .unset, .unset] [])) (fun _ hk => XS.ifNo X2.here hx rfl (hb hby d1_108) rfl ((if0 _ _).trans (tlt (show (lcmpW ((((q + (719528 : Int64)) - (60 : Int64)) + ((-(((((q + (719528 : Int64)) - (60 : Int64)) + (1 : Int64)) / (146097 : Int64)) - (1 : Int64))) * (146097 : Int64))) - (((((365 : Int64) * ((((400 : Int64) * (((q + (719528 : Int64)) - (60 : Int64)) + ((-(((((q + (719528 : Int64)) - (60 : Int64)) + (1 : Int64)) / (146097 : Int64)) - (1 : Int64))) * (146097 : Int64)))) + (591 : Int64)) / (146097 : Int64))) + (((((400 : Int64) * (((q + (719528 : Int64)) - (60 : Int64)) + ((-(((((q + (719528 : Int64)) - (60 : Int64)) + (1 : Int64)) / (146097 : Int64)) - (1 : Int64))) * (146097 : Int64)))) + (591 : Int64)) / (146097 : Int64)) / (4 : Int64))) - (((((400 : Int64) * (((q + (719528 : Int64)) - (60 : Int64)) + ((-(((((q + (719528 : Int64)) - (60 : Int64)) + (1 : Int64)) / (146097 : Int64)) - (1 : Int64))) * (146097 : Int64)))) + (591 : Int64)) / (146097 : Int64)) / (100 : Int64))) + (((((400 : Int64) * (((q + (719528 : Int64)) - (60 : Int64)) + ((-(((((q + (719528 : Int64)) - (60 : Int64)) + (1 : Int64)) / (146097 : Int64)) - (1 : Int64))) * (146097 : Int64)))) + (591 : Int64)) / (146097 : Int64)) / (400 : Int64)))) (0 : Int64)) < (0 : Int32) from hc108)).2.1) hk) ?_
      refine own_st (V := T2.setTop (mkF m 113 #[.val (.long q), .second, .val (.long (((q + (719528 : Int64)) - (60 : Int64)) + ((-(((((q + (719528 : Int64)) - (60 : Int64)) + (1 : Int64)) / (146097 : Int64)) - (1 : Int64))) * (146097 : Int64)))), .second, .val (.long ((((((q + (719528 : Int64)) - (60 : Int64)) + (1 : Int64)) / (146097 : Int64)) - (1 : Int64)) * (400 : Int64))), .second, .val (.long ((((400 : Int64) * (((q + (719528 : Int64)) - (60 : Int64)) + ((-(((((q + (719528 : Int64)) - (60 : Int64)) + (1 : Int64)) / (146097 : Int64)) - (1 : Int64))) * (146097 : Int64)))) + (591 : Int64)) / (146097 : Int64))), .second, .val (.long ((((q + (719528 : Int64)) - (60 : Int64)) + ((-(((((q + (719528 : Int64)) - (60 : Int64)) + (1 : Int64)) / (146097 : Int64)) - (1 : Int64))) * (146097 : Int64))) - (((((365 : Int64) * ((((400 : Int64) * (((q + (719528 : Int64)) - (60 : Int64)) + ((-(((((q + (719528 : Int64)) - (60 : Int64)) + (1 : Int64)) / (146097 : Int64)) - (1 : Int64))) * (146097 : Int64)))) + (591 : Int64)) / (146097 : Int64))) + (((((400 : Int64) * (((q + (719528 : Int64)) - (60 : Int64)) + ((-(((((q + (719528 : Int64)) - (60 : Int64)) + (1 : Int64)) / (146097 : Int64)) - (1 : Int64))) * (146097 : Int64)))) + (591 : Int64)) / (146097 : Int64)) / (4 : Int64))) - (((((400 : Int64) * (((q + (719528 : Int64)) - (60 : Int64)) + ((-(((((q + (719528 : Int64)) - (60 : Int64)) + (1 : Int64)) / (146097 : Int64)) - (1 : Int64))) * (146097 : Int64)))) + (591 : Int64)) / (146097 : Int64)) / (100 : Int64))) + (((((400 : Int64) * (((q + (719528 : Int64)) - (60 : Int64)) + ((-(((((q + (719528 : Int64)) - (60 : Int64)) + (1 : Int64)) / (146097 : Int64)) - (1 : Int64))) * (146097 : Int64)))) + (591 : Int64)) / (146097 : Int64)) / (400 : Int64))))), .second, .unset, .unset, .unset, .unset] [(.long ((((400 : Int64) * (((q + (719528 : Int64)) - (60 : Int64)) + ((-(((((q + (719528 : Int64)) - (60 : Int64)) + (1 : Int64)) / (146097 : Int64)) - (1 : Int64))) * (146097 : Int64)))) + (591 : Int64)) / (146097 : Int64)))])) (fun _ hk => XS.lload X2.here hx rfl (hb hby d1_111) rfl  hk) ?_
      refine own_st (V := T2.setTop (mkF m 114 #[.val (.long q), .second, .val (.long (((q + (719528 : Int64)) - (60 : Int64)) + ((-(((((q + (719528 : Int64)) - (60 : Int64)) + (1 : Int64)) / (146097 : Int64)) - (1 : Int64))) * (146097 : Int64)))), .second, .val (.long ((((((q + (719528 : Int64)) - (60 : Int64)) + (1 : Int64)) / (146097 : Int64)) - (1 : Int64)) * (400 : Int64))), .second, .val (.long ((((400 : Int64) * (((q + (719528 : Int64)) - (60 : Int64)) + ((-(((((q + (719528 : Int64)) - (60 : Int64)) + (1 : Int64)) / (146097 : Int64)) - (1 : Int64))) * (146097 : Int64)))) + (591 : Int64)) / (146097 : Int64))), .second, .val (.long ((((q + (719528 : Int64)) - (60 : Int64)) + ((-(((((q + (719528 : Int64)) - (60 : Int64)) + (1 : Int64)) / (146097 : Int64)) - (1 : Int64))) * (146097 : Int64))) - (((((365 : Int64) * ((((400 : Int64) * (((q + (719528 : Int64)) - (60 : Int64)) + ((-(((((q + (719528 : Int64)) - (60 : Int64)) + (1 : Int64)) / (146097 : Int64)) - (1 : Int64))) * (146097 : Int64)))) + (591 : Int64)) / (146097 : Int64))) + (((((400 : Int64) * (((q + (719528 : Int64)) - (60 : Int64)) + ((-(((((q + (719528 : Int64)) - (60 : Int64)) + (1 : Int64)) / (146097 : Int64)) - (1 : Int64))) * (146097 : Int64)))) + (591 : Int64)) / (146097 : Int64)) / (4 : Int64))) - (((((400 : Int64) * (((q + (719528 : Int64)) - (60 : Int64)) + ((-(((((q + (719528 : Int64)) - (60 : Int64)) + (1 : Int64)) / (146097 : Int64)) - (1 : Int64))) * (146097 : Int64)))) + (591 : Int64)) / (146097 : Int64)) / (100 : Int64))) + (((((400 : Int64) * (((q + (719528 : Int64)) - (60 : Int64)) + ((-(((((q + (719528 : Int64)) - (60 : Int64)) + (1 : Int64)) / (146097 : Int64)) - (1 : Int64))) * (146097 : Int64)))) + (591 : Int64)) / (146097 : Int64)) / (400 : Int64))))), .second, .unset, .unset, .unset, .unset] [(.long (1 : Int64)), (.long ((((400 : Int64) * (((q + (719528 : Int64)) - (60 : Int64)) + ((-(((((q + (719528 : Int64)) - (60 : Int64)) + (1 : Int64)) / (146097 : Int64)) - (1 : Int64))) * (146097 : Int64)))) + (591 : Int64)) / (146097 : Int64)))])) (fun _ hk => XS.lconst X2.here hx rfl (hb hby d1_113) hk) ?_
      refine own_st (V := T2.setTop (mkF m 115 #[.val (.long q), .second, .val (.long (((q + (719528 : Int64)) - (60 : Int64)) + ((-(((((q + (719528 : Int64)) - (60 : Int64)) + (1 : Int64)) / (146097 : Int64)) - (1 : Int64))) * (146097 : Int64)))), .second, .val (.long ((((((q + (719528 : Int64)) - (60 : Int64)) + (1 : Int64)) / (146097 : Int64)) - (1 : Int64)) * (400 : Int64))), .second, .val (.long ((((400 : Int64) * (((q + (719528 : Int64)) - (60 : Int64)) + ((-(((((q + (719528 : Int64)) - (60 : Int64)) + (1 : Int64)) / (146097 : Int64)) - (1 : Int64))) * (146097 : Int64)))) + (591 : Int64)) / (146097 : Int64))), .second, .val (.long ((((q + (719528 : Int64)) - (60 : Int64)) + ((-(((((q + (719528 : Int64)) - (60 : Int64)) + (1 : Int64)) / (146097 : Int64)) - (1 : Int64))) * (146097 : Int64))) - (((((365 : Int64) * ((((400 : Int64) * (((q + (719528 : Int64)) - (60 : Int64)) + ((-(((((q + (719528 : Int64)) - (60 : Int64)) + (1 : Int64)) / (146097 : Int64)) - (1 : Int64))) * (146097 : Int64)))) + (591 : Int64)) / (146097 : Int64))) + (((((400 : Int64) * (((q + (719528 : Int64)) - (60 : Int64)) + ((-(((((q + (719528 : Int64)) - (60 : Int64)) + (1 : Int64)) / (146097 : Int64)) - (1 : Int64))) * (146097 : Int64)))) + (591 : Int64)) / (146097 : Int64)) / (4 : Int64))) - (((((400 : Int64) * (((q + (719528 : Int64)) - (60 : Int64)) + ((-(((((q + (719528 : Int64)) - (60 : Int64)) + (1 : Int64)) / (146097 : Int64)) - (1 : Int64))) * (146097 : Int64)))) + (591 : Int64)) / (146097 : Int64)) / (100 : Int64))) + (((((400 : Int64) * (((q + (719528 : Int64)) - (60 : Int64)) + ((-(((((q + (719528 : Int64)) - (60 : Int64)) + (1 : Int64)) / (146097 : Int64)) - (1 : Int64))) * (146097 : Int64)))) + (591 : Int64)) / (146097 : Int64)) / (400 : Int64))))), .second, .unset, .unset, .unset, .unset] [(.long (((((400 : Int64) * (((q + (719528 : Int64)) - (60 : Int64)) + ((-(((((q + (719528 : Int64)) - (60 : Int64)) + (1 : Int64)) / (146097 : Int64)) - (1 : Int64))) * (146097 : Int64)))) + (591 : Int64)) / (146097 : Int64)) - (1 : Int64)))])) (fun _ hk => XS.lsub X2.here hx rfl (hb hby d1_114) rfl hk) ?_
      refine own_st (V := T2.setTop (mkF m 117 #[.val (.long q), .second, .val (.long (((q + (719528 : Int64)) - (60 : Int64)) + ((-(((((q + (719528 : Int64)) - (60 : Int64)) + (1 : Int64)) / (146097 : Int64)) - (1 : Int64))) * (146097 : Int64)))), .second, .val (.long ((((((q + (719528 : Int64)) - (60 : Int64)) + (1 : Int64)) / (146097 : Int64)) - (1 : Int64)) * (400 : Int64))), .second, .val (.long (((((400 : Int64) * (((q + (719528 : Int64)) - (60 : Int64)) + ((-(((((q + (719528 : Int64)) - (60 : Int64)) + (1 : Int64)) / (146097 : Int64)) - (1 : Int64))) * (146097 : Int64)))) + (591 : Int64)) / (146097 : Int64)) - (1 : Int64))), .second, .val (.long ((((q + (719528 : Int64)) - (60 : Int64)) + ((-(((((q + (719528 : Int64)) - (60 : Int64)) + (1 : Int64)) / (146097 : Int64)) - (1 : Int64))) * (146097 : Int64))) - (((((365 : Int64) * ((((400 : Int64) * (((q + (719528 : Int64)) - (60 : Int64)) + ((-(((((q + (719528 : Int64)) - (60 : Int64)) + (1 : Int64)) / (146097 : Int64)) - (1 : Int64))) * (146097 : Int64)))) + (591 : Int64)) / (146097 : Int64))) + (((((400 : Int64) * (((q + (719528 : Int64)) - (60 : Int64)) + ((-(((((q + (719528 : Int64)) - (60 : Int64)) + (1 : Int64)) / (146097 : Int64)) - (1 : Int64))) * (146097 : Int64)))) + (591 : Int64)) / (146097 : Int64)) / (4 : Int64))) - (((((400 : Int64) * (((q + (719528 : Int64)) - (60 : Int64)) + ((-(((((q + (719528 : Int64)) - (60 : Int64)) + (1 : Int64)) / (146097 : Int64)) - (1 : Int64))) * (146097 : Int64)))) + (591 : Int64)) / (146097 : Int64)) / (100 : Int64))) + (((((400 : Int64) * (((q + (719528 : Int64)) - (60 : Int64)) + ((-(((((q + (719528 : Int64)) - (60 : Int64)) + (1 : Int64)) / (146097 : Int64)) - (1 : Int64))) * (146097 : Int64)))) + (591 : Int64)) / (146097 : Int64)) / (400 : Int64))))), .second, .unset, .unset, .unset, .unset] [])) (fun _ hk => XS.lstore X2.here hx rfl (hb hby d1_115) rfl  (l' := #[.val (.long q), .second, .val (.long (((q + (719528 : Int64)) - (60 : Int64)) + ((-(((((q + (719528 : Int64)) - (60 : Int64)) + (1 : Int64)) / (146097 : Int64)) - (1 : Int64))) * (146097 : Int64)))), .second, .val (.long ((((((q + (719528 : Int64)) - (60 : Int64)) + (1 : Int64)) / (146097 : Int64)) - (1 : Int64)) * (400 : Int64))), .second, .val (.long (((((400 : Int64) * (((q + (719528 : Int64)) - (60 : Int64)) + ((-(((((q + (719528 : Int64)) - (60 : Int64)) + (1 : Int64)) / (146097 : Int64)) - (1 : Int64))) * (146097 : Int64)))) + (591 : Int64)) / (146097 : Int64)) - (1 : Int64))), .second, .val (.long ((((q + (719528 : Int64)) - (60 : Int64)) + ((-(((((q + (719528 : Int64)) - (60 : Int64)) + (1 : Int64)) / (146097 : Int64)) - (1 : Int64))) * (146097 : Int64))) - (((((365 : Int64) * ((((400 : Int64) * (((q + (719528 : Int64)) - (60 : Int64)) + ((-(((((q + (719528 : Int64)) - (60 : Int64)) + (1 : Int64)) / (146097 : Int64)) - (1 : Int64))) * (146097 : Int64)))) + (591 : Int64)) / (146097 : Int64))) + (((((400 : Int64) * (((q + (719528 : Int64)) - (60 : Int64)) + ((-(((((q + (719528 : Int64)) - (60 : Int64)) + (1 : Int64)) / (146097 : Int64)) - (1 : Int64))) * (146097 : Int64)))) + (591 : Int64)) / (146097 : Int64)) / (4 : Int64))) - (((((400 : Int64) * (((q + (719528 : Int64)) - (60 : Int64)) + ((-(((((q + (719528 : Int64)) - (60 : Int64)) + (1 : Int64)) / (146097 : Int64)) - (1 : Int64))) * (146097 : Int64)))) + (591 : Int64)) / (146097 : Int64)) / (100 : Int64))) + (((((400 : Int64) * (((q + (719528 : Int64)) - (60 : Int64)) + ((-(((((q + (719528 : Int64)) - (60 : Int64)) + (1 : Int64)) / (146097 : Int64)) - (1 : Int64))) * (146097 : Int64)))) + (591 : Int64)) / (146097 : Int64)) / (400 : Int64))))), .second, .unset, .unset, .unset, .unset]) rfl hk) ?_
      refine own_st (V := T2.setTop (mkF m 118 #[.val (.long q), .second, .val (.long (((q + (719528 : Int64)) - (60 : Int64)) + ((-(((((q + (719528 : Int64)) - (60 : Int64)) + (1 : Int64)) / (146097 : Int64)) - (1 : Int64))) * (146097 : Int64)))), .second, .val (.long ((((((q + (719528 : Int64)) - (60 : Int64)) + (1 : Int64)) / (146097 : Int64)) - (1 : Int64)) * (400 : Int64))), .second, .val (.long (((((400 : Int64) * (((q + (719528 : Int64)) - (60 : Int64)) + ((-(((((q + (719528 : Int64)) - (60 : Int64)) + (1 : Int64)) / (146097 : Int64)) - (1 : Int64))) * (146097 : Int64)))) + (591 : Int64)) / (146097 : Int64)) - (1 : Int64))), .second, .val (.long ((((q + (719528 : Int64)) - (60 : Int64)) + ((-(((((q + (719528 : Int64)) - (60 : Int64)) + (1 : Int64)) / (146097 : Int64)) - (1 : Int64))) * (146097 : Int64))) - (((((365 : Int64) * ((((400 : Int64) * (((q + (719528 : Int64)) - (60 : Int64)) + ((-(((((q + (719528 : Int64)) - (60 : Int64)) + (1 : Int64)) / (146097 : Int64)) - (1 : Int64))) * (146097 : Int64)))) + (591 : Int64)) / (146097 : Int64))) + (((((400 : Int64) * (((q + (719528 : Int64)) - (60 : Int64)) + ((-(((((q + (719528 : Int64)) - (60 : Int64)) + (1 : Int64)) / (146097 : Int64)) - (1 : Int64))) * (146097 : Int64)))) + (591 : Int64)) / (146097 : Int64)) / (4 : Int64))) - (((((400 : Int64) * (((q + (719528 : Int64)) - (60 : Int64)) + ((-(((((q + (719528 : Int64)) - (60 : Int64)) + (1 : Int64)) / (146097 : Int64)) - (1 : Int64))) * (146097 : Int64)))) + (591 : Int64)) / (146097 : Int64)) / (100 : Int64))) + (((((400 : Int64) * (((q + (719528 : Int64)) - (60 : Int64)) + ((-(((((q + (719528 : Int64)) - (60 : Int64)) + (1 : Int64)) / (146097 : Int64)) - (1 : Int64))) * (146097 : Int64)))) + (591 : Int64)) / (146097 : Int64)) / (400 : Int64))))), .second, .unset, .unset, .unset, .unset] [(.long (((q + (719528 : Int64)) - (60 : Int64)) + ((-(((((q + (719528 : Int64)) - (60 : Int64)) + (1 : Int64)) / (146097 : Int64)) - (1 : Int64))) * (146097 : Int64))))])) (fun _ hk => XS.lloadN X2.here hx rfl (hb hby d1_117) rfl  hk) ?_
      refine own_st (V := T2.setTop (mkF m 121 #[.val (.long q), .second, .val (.long (((q + (719528 : Int64)) - (60 : Int64)) + ((-(((((q + (719528 : Int64)) - (60 : Int64)) + (1 : Int64)) / (146097 : Int64)) - (1 : Int64))) * (146097 : Int64)))), .second, .val (.long ((((((q + (719528 : Int64)) - (60 : Int64)) + (1 : Int64)) / (146097 : Int64)) - (1 : Int64)) * (400 : Int64))), .second, .val (.long (((((400 : Int64) * (((q + (719528 : Int64)) - (60 : Int64)) + ((-(((((q + (719528 : Int64)) - (60 : Int64)) + (1 : Int64)) / (146097 : Int64)) - (1 : Int64))) * (146097 : Int64)))) + (591 : Int64)) / (146097 : Int64)) - (1 : Int64))), .second, .val (.long ((((q + (719528 : Int64)) - (60 : Int64)) + ((-(((((q + (719528 : Int64)) - (60 : Int64)) + (1 : Int64)) / (146097 : Int64)) - (1 : Int64))) * (146097 : Int64))) - (((((365 : Int64) * ((((400 : Int64) * (((q + (719528 : Int64)) - (60 : Int64)) + ((-(((((q + (719528 : Int64)) - (60 : Int64)) + (1 : Int64)) / (146097 : Int64)) - (1 : Int64))) * (146097 : Int64)))) + (591 : Int64)) / (146097 : Int64))) + (((((400 : Int64) * (((q + (719528 : Int64)) - (60 : Int64)) + ((-(((((q + (719528 : Int64)) - (60 : Int64)) + (1 : Int64)) / (146097 : Int64)) - (1 : Int64))) * (146097 : Int64)))) + (591 : Int64)) / (146097 : Int64)) / (4 : Int64))) - (((((400 : Int64) * (((q + (719528 : Int64)) - (60 : Int64)) + ((-(((((q + (719528 : Int64)) - (60 : Int64)) + (1 : Int64)) / (146097 : Int64)) - (1 : Int64))) * (146097 : Int64)))) + (591 : Int64)) / (146097 : Int64)) / (100 : Int64))) + (((((400 : Int64) * (((q + (719528 : Int64)) - (60 : Int64)) + ((-(((((q + (719528 : Int64)) - (60 : Int64)) + (1 : Int64)) / (146097 : Int64)) - (1 : Int64))) * (146097 : Int64)))) + (591 : Int64)) / (146097 : Int64)) / (400 : Int64))))), .second, .unset, .unset, .unset, .unset] [(.long (365 : Int64)), (.long (((q + (719528 : Int64)) - (60 : Int64)) + ((-(((((q + (719528 : Int64)) - (60 : Int64)) + (1 : Int64)) / (146097 : Int64)) - (1 : Int64))) * (146097 : Int64))))])) (X2.ldc2Long hx hown (mvT hZ (hw _ (List.mem_of_getElem? (i := 49) rfl))) (g := (mkF m 118 #[.val (.long q), .second, .val (.long (((q + (719528 : Int64)) - (60 : Int64)) + ((-(((((q + (719528 : Int64)) - (60 : Int64)) + (1 : Int64)) / (146097 : Int64)) - (1 : Int64))) * (146097 : Int64)))), .second, .val (.long ((((((q + (719528 : Int64)) - (60 : Int64)) + (1 : Int64)) / (146097 : Int64)) - (1 : Int64)) * (400 : Int64))), .second, .val (.long (((((400 : Int64) * (((q + (719528 : Int64)) - (60 : Int64)) + ((-(((((q + (719528 : Int64)) - (60 : Int64)) + (1 : Int64)) / (146097 : Int64)) - (1 : Int64))) * (146097 : Int64)))) + (591 : Int64)) / (146097 : Int64)) - (1 : Int64))), .second, .val (.long ((((q + (719528 : Int64)) - (60 : Int64)) + ((-(((((q + (719528 : Int64)) - (60 : Int64)) + (1 : Int64)) / (146097 : Int64)) - (1 : Int64))) * (146097 : Int64))) - (((((365 : Int64) * ((((400 : Int64) * (((q + (719528 : Int64)) - (60 : Int64)) + ((-(((((q + (719528 : Int64)) - (60 : Int64)) + (1 : Int64)) / (146097 : Int64)) - (1 : Int64))) * (146097 : Int64)))) + (591 : Int64)) / (146097 : Int64))) + (((((400 : Int64) * (((q + (719528 : Int64)) - (60 : Int64)) + ((-(((((q + (719528 : Int64)) - (60 : Int64)) + (1 : Int64)) / (146097 : Int64)) - (1 : Int64))) * (146097 : Int64)))) + (591 : Int64)) / (146097 : Int64)) / (4 : Int64))) - (((((400 : Int64) * (((q + (719528 : Int64)) - (60 : Int64)) + ((-(((((q + (719528 : Int64)) - (60 : Int64)) + (1 : Int64)) / (146097 : Int64)) - (1 : Int64))) * (146097 : Int64)))) + (591 : Int64)) / (146097 : Int64)) / (100 : Int64))) + (((((400 : Int64) * (((q + (719528 : Int64)) - (60 : Int64)) + ((-(((((q + (719528 : Int64)) - (60 : Int64)) + (1 : Int64)) / (146097 : Int64)) - (1 : Int64))) * (146097 : Int64)))) + (591 : Int64)) / (146097 : Int64)) / (400 : Int64))))), .second, .unset, .unset, .unset, .unset] [(.long (((q + (719528 : Int64)) - (60 : Int64)) + ((-(((((q + (719528 : Int64)) - (60 : Int64)) + (1 : Int64)) / (146097 : Int64)) - (1 : Int64))) * (146097 : Int64))))])) rfl (hb hby d1_118)) ?_
      refine own_st (V := T2.setTop (mkF m 123 #[.val (.long q), .second, .val (.long (((q + (719528 : Int64)) - (60 : Int64)) + ((-(((((q + (719528 : Int64)) - (60 : Int64)) + (1 : Int64)) / (146097 : Int64)) - (1 : Int64))) * (146097 : Int64)))), .second, .val (.long ((((((q + (719528 : Int64)) - (60 : Int64)) + (1 : Int64)) / (146097 : Int64)) - (1 : Int64)) * (400 : Int64))), .second, .val (.long (((((400 : Int64) * (((q + (719528 : Int64)) - (60 : Int64)) + ((-(((((q + (719528 : Int64)) - (60 : Int64)) + (1 : Int64)) / (146097 : Int64)) - (1 : Int64))) * (146097 : Int64)))) + (591 : Int64)) / (146097 : Int64)) - (1 : Int64))), .second, .val (.long ((((q + (719528 : Int64)) - (60 : Int64)) + ((-(((((q + (719528 : Int64)) - (60 : Int64)) + (1 : Int64)) / (146097 : Int64)) - (1 : Int64))) * (146097 : Int64))) - (((((365 : Int64) * ((((400 : Int64) * (((q + (719528 : Int64)) - (60 : Int64)) + ((-(((((q + (719528 : Int64)) - (60 : Int64)) + (1 : Int64)) / (146097 : Int64)) - (1 : Int64))) * (146097 : Int64)))) + (591 : Int64)) / (146097 : Int64))) + (((((400 : Int64) * (((q + (719528 : Int64)) - (60 : Int64)) + ((-(((((q + (719528 : Int64)) - (60 : Int64)) + (1 : Int64)) / (146097 : Int64)) - (1 : Int64))) * (146097 : Int64)))) + (591 : Int64)) / (146097 : Int64)) / (4 : Int64))) - (((((400 : Int64) * (((q + (719528 : Int64)) - (60 : Int64)) + ((-(((((q + (719528 : Int64)) - (60 : Int64)) + (1 : Int64)) / (146097 : Int64)) - (1 : Int64))) * (146097 : Int64)))) + (591 : Int64)) / (146097 : Int64)) / (100 : Int64))) + (((((400 : Int64) * (((q + (719528 : Int64)) - (60 : Int64)) + ((-(((((q + (719528 : Int64)) - (60 : Int64)) + (1 : Int64)) / (146097 : Int64)) - (1 : Int64))) * (146097 : Int64)))) + (591 : Int64)) / (146097 : Int64)) / (400 : Int64))))), .second, .unset, .unset, .unset, .unset] [(.long (((((400 : Int64) * (((q + (719528 : Int64)) - (60 : Int64)) + ((-(((((q + (719528 : Int64)) - (60 : Int64)) + (1 : Int64)) / (146097 : Int64)) - (1 : Int64))) * (146097 : Int64)))) + (591 : Int64)) / (146097 : Int64)) - (1 : Int64))), (.long (365 : Int64)), (.long (((q + (719528 : Int64)) - (60 : Int64)) + ((-(((((q + (719528 : Int64)) - (60 : Int64)) + (1 : Int64)) / (146097 : Int64)) - (1 : Int64))) * (146097 : Int64))))])) (fun _ hk => XS.lload X2.here hx rfl (hb hby d1_121) rfl  hk) ?_
      refine own_st (V := T2.setTop (mkF m 124 #[.val (.long q), .second, .val (.long (((q + (719528 : Int64)) - (60 : Int64)) + ((-(((((q + (719528 : Int64)) - (60 : Int64)) + (1 : Int64)) / (146097 : Int64)) - (1 : Int64))) * (146097 : Int64)))), .second, .val (.long ((((((q + (719528 : Int64)) - (60 : Int64)) + (1 : Int64)) / (146097 : Int64)) - (1 : Int64)) * (400 : Int64))), .second, .val (.long (((((400 : Int64) * (((q + (719528 : Int64)) - (60 : Int64)) + ((-(((((q + (719528 : Int64)) - (60 : Int64)) + (1 : Int64)) / (146097 : Int64)) - (1 : Int64))) * (146097 : Int64)))) + (591 : Int64)) / (146097 : Int64)) - (1 : Int64))), .second, .val (.long ((((q + (719528 : Int64)) - (60 : Int64)) + ((-(((((q + (719528 : Int64)) - (60 : Int64)) + (1 : Int64)) / (146097 : Int64)) - (1 : Int64))) * (146097 : Int64))) - (((((365 : Int64) * ((((400 : Int64) * (((q + (719528 : Int64)) - (60 : Int64)) + ((-(((((q + (719528 : Int64)) - (60 : Int64)) + (1 : Int64)) / (146097 : Int64)) - (1 : Int64))) * (146097 : Int64)))) + (591 : Int64)) / (146097 : Int64))) + (((((400 : Int64) * (((q + (719528 : Int64)) - (60 : Int64)) + ((-(((((q + (719528 : Int64)) - (60 : Int64)) + (1 : Int64)) / (146097 : Int64)) - (1 : Int64))) * (146097 : Int64)))) + (591 : Int64)) / (146097 : Int64)) / (4 : Int64))) - (((((400 : Int64) * (((q + (719528 : Int64)) - (60 : Int64)) + ((-(((((q + (719528 : Int64)) - (60 : Int64)) + (1 : Int64)) / (146097 : Int64)) - (1 : Int64))) * (146097 : Int64)))) + (591 : Int64)) / (146097 : Int64)) / (100 : Int64))) + (((((400 : Int64) * (((q + (719528 : Int64)) - (60 : Int64)) + ((-(((((q + (719528 : Int64)) - (60 : Int64)) + (1 : Int64)) / (146097 : Int64)) - (1 : Int64))) * (146097 : Int64)))) + (591 : Int64)) / (146097 : Int64)) / (400 : Int64))))), .second, .unset, .unset, .unset, .unset] [(.long ((365 : Int64) * (((((400 : Int64) * (((q + (719528 : Int64)) - (60 : Int64)) + ((-(((((q + (719528 : Int64)) - (60 : Int64)) + (1 : Int64)) / (146097 : Int64)) - (1 : Int64))) * (146097 : Int64)))) + (591 : Int64)) / (146097 : Int64)) - (1 : Int64)))), (.long (((q + (719528 : Int64)) - (60 : Int64)) + ((-(((((q + (719528 : Int64)) - (60 : Int64)) + (1 : Int64)) / (146097 : Int64)) - (1 : Int64))) * (146097 : Int64))))])) (fun _ hk => XS.lmul X2.here hx rfl (hb hby d1_123) rfl hk) ?_
      refine own_st (V := T2.setTop (mkF m 126 #[.val (.long q), .second, .val (.long (((q + (719528 : Int64)) - (60 : Int64)) + ((-(((((q + (719528 : Int64)) - (60 : Int64)) + (1 : Int64)) / (146097 : Int64)) - (1 : Int64))) * (146097 : Int64)))), .second, .val (.long ((((((q + (719528 : Int64)) - (60 : Int64)) + (1 : Int64)) / (146097 : Int64)) - (1 : Int64)) * (400 : Int64))), .second, .val (.long (((((400 : Int64) * (((q + (719528 : Int64)) - (60 : Int64)) + ((-(((((q + (719528 : Int64)) - (60 : Int64)) + (1 : Int64)) / (146097 : Int64)) - (1 : Int64))) * (146097 : Int64)))) + (591 : Int64)) / (146097 : Int64)) - (1 : Int64))), .second, .val (.long ((((q + (719528 : Int64)) - (60 : Int64)) + ((-(((((q + (719528 : Int64)) - (60 : Int64)) + (1 : Int64)) / (146097 : Int64)) - (1 : Int64))) * (146097 : Int64))) - (((((365 : Int64) * ((((400 : Int64) * (((q + (719528 : Int64)) - (60 : Int64)) + ((-(((((q + (719528 : Int64)) - (60 : Int64)) + (1 : Int64)) / (146097 : Int64)) - (1 : Int64))) * (146097 : Int64)))) + (591 : Int64)) / (146097 : Int64))) + (((((400 : Int64) * (((q + (719528 : Int64)) - (60 : Int64)) + ((-(((((q + (719528 : Int64)) - (60 : Int64)) + (1 : Int64)) / (146097 : Int64)) - (1 : Int64))) * (146097 : Int64)))) + (591 : Int64)) / (146097 : Int64)) / (4 : Int64))) - (((((400 : Int64) * (((q + (719528 : Int64)) - (60 : Int64)) + ((-(((((q + (719528 : Int64)) - (60 : Int64)) + (1 : Int64)) / (146097 : Int64)) - (1 : Int64))) * (146097 : Int64)))) + (591 : Int64)) / (146097 : Int64)) / (100 : Int64))) + (((((400 : Int64) * (((q + (719528 : Int64)) - (60 : Int64)) + ((-(((((q + (719528 : Int64)) - (60 : Int64)) + (1 : Int64)) / (146097 : Int64)) - (1 : Int64))) * (146097 : Int64)))) + (591 : Int64)) / (146097 : Int64)) / (400 : Int64))))), .second, .unset, .unset, .unset, .unset] [(.long (((((400 : Int64) * (((q + (719528 : Int64)) - (60 : Int64)) + ((-(((((q + (719528 : Int64)) - (60 : Int64)) + (1 : Int64)) / (146097 : Int64)) - (1 : Int64))) * (146097 : Int64)))) + (591 : Int64)) / (146097 : Int64)) - (1 : Int64))), (.long ((365 : Int64) * (((((400 : Int64) * (((q + (719528 : Int64)) - (60 : Int64)) + ((-(((((q + (719528 : Int64)) - (60 : Int64)) + (1 : Int64)) / (146097 : Int64)) - (1 : Int64))) * (146097 : Int64)))) + (591 : Int64)) / (146097 : Int64)) - (1 : Int64)))), (.long (((q + (719528 : Int64)) - (60 : Int64)) + ((-(((((q + (719528 : Int64)) - (60 : Int64)) + (1 : Int64)) / (146097 : Int64)) - (1 : Int64))) * (146097 : Int64))))])) (fun _ hk => XS.lload X2.here hx rfl (hb hby d1_124) rfl  hk) ?_
      refine own_st (V := T2.setTop (mkF m 129 #[.val (.long q), .second, .val (.long (((q + (719528 : Int64)) - (60 : Int64)) + ((-(((((q + (719528 : Int64)) - (60 : Int64)) + (1 : Int64)) / (146097 : Int64)) - (1 : Int64))) * (146097 : Int64)))), .second, .val (.long ((((((q + (719528 : Int64)) - (60 : Int64)) + (1 : Int64)) / (146097 : Int64)) - (1 : Int64)) * (400 : Int64))), .second, .val (.long (((((400 : Int64) * (((q + (719528 : Int64)) - (60 : Int64)) + ((-(((((q + (719528 : Int64)) - (60 : Int64)) + (1 : Int64)) / (146097 : Int64)) - (1 : Int64))) * (146097 : Int64)))) + (591 : Int64)) / (146097 : Int64)) - (1 : Int64))), .second, .val (.long ((((q + (719528 : Int64)) - (60 : Int64)) + ((-(((((q + (719528 : Int64)) - (60 : Int64)) + (1 : Int64)) / (146097 : Int64)) - (1 : Int64))) * (146097 : Int64))) - (((((365 : Int64) * ((((400 : Int64) * (((q + (719528 : Int64)) - (60 : Int64)) + ((-(((((q + (719528 : Int64)) - (60 : Int64)) + (1 : Int64)) / (146097 : Int64)) - (1 : Int64))) * (146097 : Int64)))) + (591 : Int64)) / (146097 : Int64))) + (((((400 : Int64) * (((q + (719528 : Int64)) - (60 : Int64)) + ((-(((((q + (719528 : Int64)) - (60 : Int64)) + (1 : Int64)) / (146097 : Int64)) - (1 : Int64))) * (146097 : Int64)))) + (591 : Int64)) / (146097 : Int64)) / (4 : Int64))) - (((((400 : Int64) * (((q + (719528 : Int64)) - (60 : Int64)) + ((-(((((q + (719528 : Int64)) - (60 : Int64)) + (1 : Int64)) / (146097 : Int64)) - (1 : Int64))) * (146097 : Int64)))) + (591 : Int64)) / (146097 : Int64)) / (100 : Int64))) + (((((400 : Int64) * (((q + (719528 : Int64)) - (60 : Int64)) + ((-(((((q + (719528 : Int64)) - (60 : Int64)) + (1 : Int64)) / (146097 : Int64)) - (1 : Int64))) * (146097 : Int64)))) + (591 : Int64)) / (146097 : Int64)) / (400 : Int64))))), .second, .unset, .unset, .unset, .unset] [(.long (4 : Int64)), (.long (((((400 : Int64) * (((q + (719528 : Int64)) - (60 : Int64)) + ((-(((((q + (719528 : Int64)) - (60 : Int64)) + (1 : Int64)) / (146097 : Int64)) - (1 : Int64))) * (146097 : Int64)))) + (591 : Int64)) / (146097 : Int64)) - (1 : Int64))), (.long ((365 : Int64) * (((((400 : Int64) * (((q + (719528 : Int64)) - (60 : Int64)) + ((-(((((q + (719528 : Int64)) - (60 : Int64)) + (1 : Int64)) / (146097 : Int64)) - (1 : Int64))) * (146097 : Int64)))) + (591 : Int64)) / (146097 : Int64)) - (1 : Int64)))), (.long (((q + (719528 : Int64)) - (60 : Int64)) + ((-(((((q + (719528 : Int64)) - (60 : Int64)) + (1 : Int64)) / (146097 : Int64)) - (1 : Int64))) * (146097 : Int64))))])) (X2.ldc2Long hx hown (mvT hZ (hw _ (List.mem_of_getElem? (i := 50) rfl))) (g := (mkF m 126 #[.val (.long q), .second, .val (.long (((q + (719528 : Int64)) - (60 : Int64)) + ((-(((((q + (719528 : Int64)) - (60 : Int64)) + (1 : Int64)) / (146097 : Int64)) - (1 : Int64))) * (146097 : Int64)))), .second, .val (.long ((((((q + (719528 : Int64)) - (60 : Int64)) + (1 : Int64)) / (146097 : Int64)) - (1 : Int64)) * (400 : Int64))), .second, .val (.long (((((400 : Int64) * (((q + (719528 : Int64)) - (60 : Int64)) + ((-(((((q + (719528 : Int64)) - (60 : Int64)) + (1 : Int64)) / (146097 : Int64)) - (1 : Int64))) * (146097 : Int64)))) + (591 : Int64)) / (146097 : Int64)) - (1 : Int64))), .second, .val (.long ((((q + (719528 : Int64)) - (60 : Int64)) + ((-(((((q + (719528 : Int64)) - (60 : Int64)) + (1 : Int64)) / (146097 : Int64)) - (1 : Int64))) * (146097 : Int64))) - (((((365 : Int64) * ((((400 : Int64) * (((q + (719528 : Int64)) - (60 : Int64)) + ((-(((((q + (719528 : Int64)) - (60 : Int64)) + (1 : Int64)) / (146097 : Int64)) - (1 : Int64))) * (146097 : Int64)))) + (591 : Int64)) / (146097 : Int64))) + (((((400 : Int64) * (((q + (719528 : Int64)) - (60 : Int64)) + ((-(((((q + (719528 : Int64)) - (60 : Int64)) + (1 : Int64)) / (146097 : Int64)) - (1 : Int64))) * (146097 : Int64)))) + (591 : Int64)) / (146097 : Int64)) / (4 : Int64))) - (((((400 : Int64) * (((q + (719528 : Int64)) - (60 : Int64)) + ((-(((((q + (719528 : Int64)) - (60 : Int64)) + (1 : Int64)) / (146097 : Int64)) - (1 : Int64))) * (146097 : Int64)))) + (591 : Int64)) / (146097 : Int64)) / (100 : Int64))) + (((((400 : Int64) * (((q + (719528 : Int64)) - (60 : Int64)) + ((-(((((q + (719528 : Int64)) - (60 : Int64)) + (1 : Int64)) / (146097 : Int64)) - (1 : Int64))) * (146097 : Int64)))) + (591 : Int64)) / (146097 : Int64)) / (400 : Int64))))), .second, .unset, .unset, .unset, .unset] [(.long (((((400 : Int64) * (((q + (719528 : Int64)) - (60 : Int64)) + ((-(((((q + (719528 : Int64)) - (60 : Int64)) + (1 : Int64)) / (146097 : Int64)) - (1 : Int64))) * (146097 : Int64)))) + (591 : Int64)) / (146097 : Int64)) - (1 : Int64))), (.long ((365 : Int64) * (((((400 : Int64) * (((q + (719528 : Int64)) - (60 : Int64)) + ((-(((((q + (719528 : Int64)) - (60 : Int64)) + (1 : Int64)) / (146097 : Int64)) - (1 : Int64))) * (146097 : Int64)))) + (591 : Int64)) / (146097 : Int64)) - (1 : Int64)))), (.long (((q + (719528 : Int64)) - (60 : Int64)) + ((-(((((q + (719528 : Int64)) - (60 : Int64)) + (1 : Int64)) / (146097 : Int64)) - (1 : Int64))) * (146097 : Int64))))])) rfl (hb hby d1_126)) ?_
      refine own_st (V := T2.setTop (mkF m 130 #[.val (.long q), .second, .val (.long (((q + (719528 : Int64)) - (60 : Int64)) + ((-(((((q + (719528 : Int64)) - (60 : Int64)) + (1 : Int64)) / (146097 : Int64)) - (1 : Int64))) * (146097 : Int64)))), .second, .val (.long ((((((q + (719528 : Int64)) - (60 : Int64)) + (1 : Int64)) / (146097 : Int64)) - (1 : Int64)) * (400 : Int64))), .second, .val (.long (((((400 : Int64) * (((q + (719528 : Int64)) - (60 : Int64)) + ((-(((((q + (719528 : Int64)) - (60 : Int64)) + (1 : Int64)) / (146097 : Int64)) - (1 : Int64))) * (146097 : Int64)))) + (591 : Int64)) / (146097 : Int64)) - (1 : Int64))), .second, .val (.long ((((q + (719528 : Int64)) - (60 : Int64)) + ((-(((((q + (719528 : Int64)) - (60 : Int64)) + (1 : Int64)) / (146097 : Int64)) - (1 : Int64))) * (146097 : Int64))) - (((((365 : Int64) * ((((400 : Int64) * (((q + (719528 : Int64)) - (60 : Int64)) + ((-(((((q + (719528 : Int64)) - (60 : Int64)) + (1 : Int64)) / (146097 : Int64)) - (1 : Int64))) * (146097 : Int64)))) + (591 : Int64)) / (146097 : Int64))) + (((((400 : Int64) * (((q + (719528 : Int64)) - (60 : Int64)) + ((-(((((q + (719528 : Int64)) - (60 : Int64)) + (1 : Int64)) / (146097 : Int64)) - (1 : Int64))) * (146097 : Int64)))) + (591 : Int64)) / (146097 : Int64)) / (4 : Int64))) - (((((400 : Int64) * (((q + (719528 : Int64)) - (60 : Int64)) + ((-(((((q + (719528 : Int64)) - (60 : Int64)) + (1 : Int64)) / (146097 : Int64)) - (1 : Int64))) * (146097 : Int64)))) + (591 : Int64)) / (146097 : Int64)) / (100 : Int64))) + (((((400 : Int64) * (((q + (719528 : Int64)) - (60 : Int64)) + ((-(((((q + (719528 : Int64)) - (60 : Int64)) + (1 : Int64)) / (146097 : Int64)) - (1 : Int64))) * (146097 : Int64)))) + (591 : Int64)) / (146097 : Int64)) / (400 : Int64))))), .second, .unset, .unset, .unset, .unset] [(.long ((((((400 : Int64) * (((q + (719528 : Int64)) - (60 : Int64)) + ((-(((((q + (719528 : Int64)) - (60 : Int64)) + (1 : Int64)) / (146097 : Int64)) - (1 : Int64))) * (146097 : Int64)))) + (591 : Int64)) / (146097 : Int64)) - (1 : Int64)) / (4 : Int64))), (.long ((365 : Int64) * (((((400 : Int64) * (((q + (719528 : Int64)) - (60 : Int64)) + ((-(((((q + (719528 : Int64)) - (60 : Int64)) + (1 : Int64)) / (146097 : Int64)) - (1 : Int64))) * (146097 : Int64)))) + (591 : Int64)) / (146097 : Int64)) - (1 : Int64)))), (.long (((q + (719528 : Int64)) - (60 : Int64)) + ((-(((((q + (719528 : Int64)) - (60 : Int64)) + (1 : Int64)) / (146097 : Int64)) - (1 : Int64))) * (146097 : Int64))))])) (fun _ hk => XS.ldiv X2.here hx rfl (hb hby d1_129) rfl (by decide) hk) ?_
      refine own_st (V := T2.setTop (mkF m 131 #[.val (.long q), .second, .val (.long (((q + (719528 : Int64)) - (60 : Int64)) + ((-(((((q + (719528 : Int64)) - (60 : Int64)) + (1 : Int64)) / (146097 : Int64)) - (1 : Int64))) * (146097 : Int64)))), .second, .val (.long ((((((q + (719528 : Int64)) - (60 : Int64)) + (1 : Int64)) / (146097 : Int64)) - (1 : Int64)) * (400 : Int64))), .second, .val (.long (((((400 : Int64) * (((q + (719528 : Int64)) - (60 : Int64)) + ((-(((((q + (719528 : Int64)) - (60 : Int64)) + (1 : Int64)) / (146097 : Int64)) - (1 : Int64))) * (146097 : Int64)))) + (591 : Int64)) / (146097 : Int64)) - (1 : Int64))), .second, .val (.long ((((q + (719528 : Int64)) - (60 : Int64)) + ((-(((((q + (719528 : Int64)) - (60 : Int64)) + (1 : Int64)) / (146097 : Int64)) - (1 : Int64))) * (146097 : Int64))) - (((((365 : Int64) * ((((400 : Int64) * (((q + (719528 : Int64)) - (60 : Int64)) + ((-(((((q + (719528 : Int64)) - (60 : Int64)) + (1 : Int64)) / (146097 : Int64)) - (1 : Int64))) * (146097 : Int64)))) + (591 : Int64)) / (146097 : Int64))) + (((((400 : Int64) * (((q + (719528 : Int64)) - (60 : Int64)) + ((-(((((q + (719528 : Int64)) - (60 : Int64)) + (1 : Int64)) / (146097 : Int64)) - (1 : Int64))) * (146097 : Int64)))) + (591 : Int64)) / (146097 : Int64)) / (4 : Int64))) - (((((400 : Int64) * (((q + (719528 : Int64)) - (60 : Int64)) + ((-(((((q + (719528 : Int64)) - (60 : Int64)) + (1 : Int64)) / (146097 : Int64)) - (1 : Int64))) * (146097 : Int64)))) + (591 : Int64)) / (146097 : Int64)) / (100 : Int64))) + (((((400 : Int64) * (((q + (719528 : Int64)) - (60 : Int64)) + ((-(((((q + (719528 : Int64)) - (60 : Int64)) + (1 : Int64)) / (146097 : Int64)) - (1 : Int64))) * (146097 : Int64)))) + (591 : Int64)) / (146097 : Int64)) / (400 : Int64))))), .second, .unset, .unset, .unset, .unset] [(.long (((365 : Int64) * (((((400 : Int64) * (((q + (719528 : Int64)) - (60 : Int64)) + ((-(((((q + (719528 : Int64)) - (60 : Int64)) + (1 : Int64)) / (146097 : Int64)) - (1 : Int64))) * (146097 : Int64)))) + (591 : Int64)) / (146097 : Int64)) - (1 : Int64))) + ((((((400 : Int64) * (((q + (719528 : Int64)) - (60 : Int64)) + ((-(((((q + (719528 : Int64)) - (60 : Int64)) + (1 : Int64)) / (146097 : Int64)) - (1 : Int64))) * (146097 : Int64)))) + (591 : Int64)) / (146097 : Int64)) - (1 : Int64)) / (4 : Int64)))), (.long (((q + (719528 : Int64)) - (60 : Int64)) + ((-(((((q + (719528 : Int64)) - (60 : Int64)) + (1 : Int64)) / (146097 : Int64)) - (1 : Int64))) * (146097 : Int64))))])) (fun _ hk => XS.ladd X2.here hx rfl (hb hby d1_130) rfl hk) ?_
      refine own_st (V := T2.setTop (mkF m 133 #[.val (.long q), .second, .val (.long (((q + (719528 : Int64)) - (60 : Int64)) + ((-(((((q + (719528 : Int64)) - (60 : Int64)) + (1 : Int64)) / (146097 : Int64)) - (1 : Int64))) * (146097 : Int64)))), .second, .val (.long ((((((q + (719528 : Int64)) - (60 : Int64)) + (1 : Int64)) / (146097 : Int64)) - (1 : Int64)) * (400 : Int64))), .second, .val (.long (((((400 : Int64) * (((q + (719528 : Int64)) - (60 : Int64)) + ((-(((((q + (719528 : Int64)) - (60 : Int64)) + (1 : Int64)) / (146097 : Int64)) - (1 : Int64))) * (146097 : Int64)))) + (591 : Int64)) / (146097 : Int64)) - (1 : Int64))), .second, .val (.long ((((q + (719528 : Int64)) - (60 : Int64)) + ((-(((((q + (719528 : Int64)) - (60 : Int64)) + (1 : Int64)) / (146097 : Int64)) - (1 : Int64))) * (146097 : Int64))) - (((((365 : Int64) * ((((400 : Int64) * (((q + (719528 : Int64)) - (60 : Int64)) + ((-(((((q + (719528 : Int64)) - (60 : Int64)) + (1 : Int64)) / (146097 : Int64)) - (1 : Int64))) * (146097 : Int64)))) + (591 : Int64)) / (146097 : Int64))) + (((((400 : Int64) * (((q + (719528 : Int64)) - (60 : Int64)) + ((-(((((q + (719528 : Int64)) - (60 : Int64)) + (1 : Int64)) / (146097 : Int64)) - (1 : Int64))) * (146097 : Int64)))) + (591 : Int64)) / (146097 : Int64)) / (4 : Int64))) - (((((400 : Int64) * (((q + (719528 : Int64)) - (60 : Int64)) + ((-(((((q + (719528 : Int64)) - (60 : Int64)) + (1 : Int64)) / (146097 : Int64)) - (1 : Int64))) * (146097 : Int64)))) + (591 : Int64)) / (146097 : Int64)) / (100 : Int64))) + (((((400 : Int64) * (((q + (719528 : Int64)) - (60 : Int64)) + ((-(((((q + (719528 : Int64)) - (60 : Int64)) + (1 : Int64)) / (146097 : Int64)) - (1 : Int64))) * (146097 : Int64)))) + (591 : Int64)) / (146097 : Int64)) / (400 : Int64))))), .second, .unset, .unset, .unset, .unset] [(.long (((((400 : Int64) * (((q + (719528 : Int64)) - (60 : Int64)) + ((-(((((q + (719528 : Int64)) - (60 : Int64)) + (1 : Int64)) / (146097 : Int64)) - (1 : Int64))) * (146097 : Int64)))) + (591 : Int64)) / (146097 : Int64)) - (1 : Int64))), (.long (((365 : Int64) * (((((400 : Int64) * (((q + (719528 : Int64)) - (60 : Int64)) + ((-(((((q + (719528 : Int64)) - (60 : Int64)) + (1 : Int64)) / (146097 : Int64)) - (1 : Int64))) * (146097 : Int64)))) + (591 : Int64)) / (146097 : Int64)) - (1 : Int64))) + ((((((400 : Int64) * (((q + (719528 : Int64)) - (60 : Int64)) + ((-(((((q + (719528 : Int64)) - (60 : Int64)) + (1 : Int64)) / (146097 : Int64)) - (1 : Int64))) * (146097 : Int64)))) + (591 : Int64)) / (146097 : Int64)) - (1 : Int64)) / (4 : Int64)))), (.long (((q + (719528 : Int64)) - (60 : Int64)) + ((-(((((q + (719528 : Int64)) - (60 : Int64)) + (1 : Int64)) / (146097 : Int64)) - (1 : Int64))) * (146097 : Int64))))])) (fun _ hk => XS.lload X2.here hx rfl (hb hby d1_131) rfl  hk) ?_
      refine own_st (V := T2.setTop (mkF m 136 #[.val (.long q), .second, .val (.long (((q + (719528 : Int64)) - (60 : Int64)) + ((-(((((q + (719528 : Int64)) - (60 : Int64)) + (1 : Int64)) / (146097 : Int64)) - (1 : Int64))) * (146097 : Int64)))), .second, .val (.long ((((((q + (719528 : Int64)) - (60 : Int64)) + (1 : Int64)) / (146097 : Int64)) - (1 : Int64)) * (400 : Int64))), .second, .val (.long (((((400 : Int64) * (((q + (719528 : Int64)) - (60 : Int64)) + ((-(((((q + (719528 : Int64)) - (60 : Int64)) + (1 : Int64)) / (146097 : Int64)) - (1 : Int64))) * (146097 : Int64)))) + (591 : Int64)) / (146097 : Int64)) - (1 : Int64))), .second, .val (.long ((((q + (719528 : Int64)) - (60 : Int64)) + ((-(((((q + (719528 : Int64)) - (60 : Int64)) + (1 : Int64)) / (146097 : Int64)) - (1 : Int64))) * (146097 : Int64))) - (((((365 : Int64) * ((((400 : Int64) * (((q + (719528 : Int64)) - (60 : Int64)) + ((-(((((q + (719528 : Int64)) - (60 : Int64)) + (1 : Int64)) / (146097 : Int64)) - (1 : Int64))) * (146097 : Int64)))) + (591 : Int64)) / (146097 : Int64))) + (((((400 : Int64) * (((q + (719528 : Int64)) - (60 : Int64)) + ((-(((((q + (719528 : Int64)) - (60 : Int64)) + (1 : Int64)) / (146097 : Int64)) - (1 : Int64))) * (146097 : Int64)))) + (591 : Int64)) / (146097 : Int64)) / (4 : Int64))) - (((((400 : Int64) * (((q + (719528 : Int64)) - (60 : Int64)) + ((-(((((q + (719528 : Int64)) - (60 : Int64)) + (1 : Int64)) / (146097 : Int64)) - (1 : Int64))) * (146097 : Int64)))) + (591 : Int64)) / (146097 : Int64)) / (100 : Int64))) + (((((400 : Int64) * (((q + (719528 : Int64)) - (60 : Int64)) + ((-(((((q + (719528 : Int64)) - (60 : Int64)) + (1 : Int64)) / (146097 : Int64)) - (1 : Int64))) * (146097 : Int64)))) + (591 : Int64)) / (146097 : Int64)) / (400 : Int64))))), .second, .unset, .unset, .unset, .unset] [(.long (100 : Int64)), (.long (((((400 : Int64) * (((q + (719528 : Int64)) - (60 : Int64)) + ((-(((((q + (719528 : Int64)) - (60 : Int64)) + (1 : Int64)) / (146097 : Int64)) - (1 : Int64))) * (146097 : Int64)))) + (591 : Int64)) / (146097 : Int64)) - (1 : Int64))), (.long (((365 : Int64) * (((((400 : Int64) * (((q + (719528 : Int64)) - (60 : Int64)) + ((-(((((q + (719528 : Int64)) - (60 : Int64)) + (1 : Int64)) / (146097 : Int64)) - (1 : Int64))) * (146097 : Int64)))) + (591 : Int64)) / (146097 : Int64)) - (1 : Int64))) + ((((((400 : Int64) * (((q + (719528 : Int64)) - (60 : Int64)) + ((-(((((q + (719528 : Int64)) - (60 : Int64)) + (1 : Int64)) / (146097 : Int64)) - (1 : Int64))) * (146097 : Int64)))) + (591 : Int64)) / (146097 : Int64)) - (1 : Int64)) / (4 : Int64)))), (.long (((q + (719528 : Int64)) - (60 : Int64)) + ((-(((((q + (719528 : Int64)) - (60 : Int64)) + (1 : Int64)) / (146097 : Int64)) - (1 : Int64))) * (146097 : Int64))))])) (X2.ldc2Long hx hown (mvT hZ (hw _ (List.mem_of_getElem? (i := 51) rfl))) (g := (mkF m 133 #[.val (.long q), .second, .val (.long (((q + (719528 : Int64)) - (60 : Int64)) + ((-(((((q + (719528 : Int64)) - (60 : Int64)) + (1 : Int64)) / (146097 : Int64)) - (1 : Int64))) * (146097 : Int64)))), .second, .val (.long ((((((q + (719528 : Int64)) - (60 : Int64)) + (1 : Int64)) / (146097 : Int64)) - (1 : Int64)) * (400 : Int64))), .second, .val (.long (((((400 : Int64) * (((q + (719528 : Int64)) - (60 : Int64)) + ((-(((((q + (719528 : Int64)) - (60 : Int64)) + (1 : Int64)) / (146097 : Int64)) - (1 : Int64))) * (146097 : Int64)))) + (591 : Int64)) / (146097 : Int64)) - (1 : Int64))), .second, .val (.long ((((q + (719528 : Int64)) - (60 : Int64)) + ((-(((((q + (719528 : Int64)) - (60 : Int64)) + (1 : Int64)) / (146097 : Int64)) - (1 : Int64))) * (146097 : Int64))) - (((((365 : Int64) * ((((400 : Int64) * (((q + (719528 : Int64)) - (60 : Int64)) + ((-(((((q + (719528 : Int64)) - (60 : Int64)) + (1 : Int64)) / (146097 : Int64)) - (1 : Int64))) * (146097 : Int64)))) + (591 : Int64)) / (146097 : Int64))) + (((((400 : Int64) * (((q + (719528 : Int64)) - (60 : Int64)) + ((-(((((q + (719528 : Int64)) - (60 : Int64)) + (1 : Int64)) / (146097 : Int64)) - (1 : Int64))) * (146097 : Int64)))) + (591 : Int64)) / (146097 : Int64)) / (4 : Int64))) - (((((400 : Int64) * (((q + (719528 : Int64)) - (60 : Int64)) + ((-(((((q + (719528 : Int64)) - (60 : Int64)) + (1 : Int64)) / (146097 : Int64)) - (1 : Int64))) * (146097 : Int64)))) + (591 : Int64)) / (146097 : Int64)) / (100 : Int64))) + (((((400 : Int64) * (((q + (719528 : Int64)) - (60 : Int64)) + ((-(((((q + (719528 : Int64)) - (60 : Int64)) + (1 : Int64)) / (146097 : Int64)) - (1 : Int64))) * (146097 : Int64)))) + (591 : Int64)) / (146097 : Int64)) / (400 : Int64))))), .second, .unset, .unset, .unset, .unset] [(.long (((((400 : Int64) * (((q + (719528 : Int64)) - (60 : Int64)) + ((-(((((q + (719528 : Int64)) - (60 : Int64)) + (1 : Int64)) / (146097 : Int64)) - (1 : Int64))) * (146097 : Int64)))) + (591 : Int64)) / (146097 : Int64)) - (1 : Int64))), (.long (((365 : Int64) * (((((400 : Int64) * (((q + (719528 : Int64)) - (60 : Int64)) + ((-(((((q + (719528 : Int64)) - (60 : Int64)) + (1 : Int64)) / (146097 : Int64)) - (1 : Int64))) * (146097 : Int64)))) + (591 : Int64)) / (146097 : Int64)) - (1 : Int64))) + ((((((400 : Int64) * (((q + (719528 : Int64)) - (60 : Int64)) + ((-(((((q + (719528 : Int64)) - (60 : Int64)) + (1 : Int64)) / (146097 : Int64)) - (1 : Int64))) * (146097 : Int64)))) + (591 : Int64)) / (146097 : Int64)) - (1 : Int64)) / (4 : Int64)))), (.long (((q + (719528 : Int64)) - (60 : Int64)) + ((-(((((q + (719528 : Int64)) - (60 : Int64)) + (1 : Int64)) / (146097 : Int64)) - (1 : Int64))) * (146097 : Int64))))])) rfl (hb hby d1_133)) ?_
      refine own_st (V := T2.setTop (mkF m 137 #[.val (.long q), .second, .val (.long (((q + (719528 : Int64)) - (60 : Int64)) + ((-(((((q + (719528 : Int64)) - (60 : Int64)) + (1 : Int64)) / (146097 : Int64)) - (1 : Int64))) * (146097 : Int64)))), .second, .val (.long ((((((q + (719528 : Int64)) - (60 : Int64)) + (1 : Int64)) / (146097 : Int64)) - (1 : Int64)) * (400 : Int64))), .second, .val (.long (((((400 : Int64) * (((q + (719528 : Int64)) - (60 : Int64)) + ((-(((((q + (719528 : Int64)) - (60 : Int64)) + (1 : Int64)) / (146097 : Int64)) - (1 : Int64))) * (146097 : Int64)))) + (591 : Int64)) / (146097 : Int64)) - (1 : Int64))), .second, .val (.long ((((q + (719528 : Int64)) - (60 : Int64)) + ((-(((((q + (719528 : Int64)) - (60 : Int64)) + (1 : Int64)) / (146097 : Int64)) - (1 : Int64))) * (146097 : Int64))) - (((((365 : Int64) * ((((400 : Int64) * (((q + (719528 : Int64)) - (60 : Int64)) + ((-(((((q + (719528 : Int64)) - (60 : Int64)) + (1 : Int64)) / (146097 : Int64)) - (1 : Int64))) * (146097 : Int64)))) + (591 : Int64)) / (146097 : Int64))) + (((((400 : Int64) * (((q + (719528 : Int64)) - (60 : Int64)) + ((-(((((q + (719528 : Int64)) - (60 : Int64)) + (1 : Int64)) / (146097 : Int64)) - (1 : Int64))) * (146097 : Int64)))) + (591 : Int64)) / (146097 : Int64)) / (4 : Int64))) - (((((400 : Int64) * (((q + (719528 : Int64)) - (60 : Int64)) + ((-(((((q + (719528 : Int64)) - (60 : Int64)) + (1 : Int64)) / (146097 : Int64)) - (1 : Int64))) * (146097 : Int64)))) + (591 : Int64)) / (146097 : Int64)) / (100 : Int64))) + (((((400 : Int64) * (((q + (719528 : Int64)) - (60 : Int64)) + ((-(((((q + (719528 : Int64)) - (60 : Int64)) + (1 : Int64)) / (146097 : Int64)) - (1 : Int64))) * (146097 : Int64)))) + (591 : Int64)) / (146097 : Int64)) / (400 : Int64))))), .second, .unset, .unset, .unset, .unset] [(.long ((((((400 : Int64) * (((q + (719528 : Int64)) - (60 : Int64)) + ((-(((((q + (719528 : Int64)) - (60 : Int64)) + (1 : Int64)) / (146097 : Int64)) - (1 : Int64))) * (146097 : Int64)))) + (591 : Int64)) / (146097 : Int64)) - (1 : Int64)) / (100 : Int64))), (.long (((365 : Int64) * (((((400 : Int64) * (((q + (719528 : Int64)) - (60 : Int64)) + ((-(((((q + (719528 : Int64)) - (60 : Int64)) + (1 : Int64)) / (146097 : Int64)) - (1 : Int64))) * (146097 : Int64)))) + (591 : Int64)) / (146097 : Int64)) - (1 : Int64))) + ((((((400 : Int64) * (((q + (719528 : Int64)) - (60 : Int64)) + ((-(((((q + (719528 : Int64)) - (60 : Int64)) + (1 : Int64)) / (146097 : Int64)) - (1 : Int64))) * (146097 : Int64)))) + (591 : Int64)) / (146097 : Int64)) - (1 : Int64)) / (4 : Int64)))), (.long (((q + (719528 : Int64)) - (60 : Int64)) + ((-(((((q + (719528 : Int64)) - (60 : Int64)) + (1 : Int64)) / (146097 : Int64)) - (1 : Int64))) * (146097 : Int64))))])) (fun _ hk => XS.ldiv X2.here hx rfl (hb hby d1_136) rfl (by decide) hk) ?_
      refine own_st (V := T2.setTop (mkF m 138 #[.val (.long q), .second, .val (.long (((q + (719528 : Int64)) - (60 : Int64)) + ((-(((((q + (719528 : Int64)) - (60 : Int64)) + (1 : Int64)) / (146097 : Int64)) - (1 : Int64))) * (146097 : Int64)))), .second, .val (.long ((((((q + (719528 : Int64)) - (60 : Int64)) + (1 : Int64)) / (146097 : Int64)) - (1 : Int64)) * (400 : Int64))), .second, .val (.long (((((400 : Int64) * (((q + (719528 : Int64)) - (60 : Int64)) + ((-(((((q + (719528 : Int64)) - (60 : Int64)) + (1 : Int64)) / (146097 : Int64)) - (1 : Int64))) * (146097 : Int64)))) + (591 : Int64)) / (146097 : Int64)) - (1 : Int64))), .second, .val (.long ((((q + (719528 : Int64)) - (60 : Int64)) + ((-(((((q + (719528 : Int64)) - (60 : Int64)) + (1 : Int64)) / (146097 : Int64)) - (1 : Int64))) * (146097 : Int64))) - (((((365 : Int64) * ((((400 : Int64) * (((q + (719528 : Int64)) - (60 : Int64)) + ((-(((((q + (719528 : Int64)) - (60 : Int64)) + (1 : Int64)) / (146097 : Int64)) - (1 : Int64))) * (146097 : Int64)))) + (591 : Int64)) / (146097 : Int64))) + (((((400 : Int64) * (((q + (719528 : Int64)) - (60 : Int64)) + ((-(((((q + (719528 : Int64)) - (60 : Int64)) + (1 : Int64)) / (146097 : Int64)) - (1 : Int64))) * (146097 : Int64)))) + (591 : Int64)) / (146097 : Int64)) / (4 : Int64))) - (((((400 : Int64) * (((q + (719528 : Int64)) - (60 : Int64)) + ((-(((((q + (719528 : Int64)) - (60 : Int64)) + (1 : Int64)) / (146097 : Int64)) - (1 : Int64))) * (146097 : Int64)))) + (591 : Int64)) / (146097 : Int64)) / (100 : Int64))) + (((((400 : Int64) * (((q + (719528 : Int64)) - (60 : Int64)) + ((-(((((q + (719528 : Int64)) - (60 : Int64)) + (1 : Int64)) / (146097 : Int64)) - (1 : Int64))) * (146097 : Int64)))) + (591 : Int64)) / (146097 : Int64)) / (400 : Int64))))), .second, .unset, .unset, .unset, .unset] [(.long ((((365 : Int64) * (((((400 : Int64) * (((q + (719528 : Int64)) - (60 : Int64)) + ((-(((((q + (719528 : Int64)) - (60 : Int64)) + (1 : Int64)) / (146097 : Int64)) - (1 : Int64))) * (146097 : Int64)))) + (591 : Int64)) / (146097 : Int64)) - (1 : Int64))) + ((((((400 : Int64) * (((q + (719528 : Int64)) - (60 : Int64)) + ((-(((((q + (719528 : Int64)) - (60 : Int64)) + (1 : Int64)) / (146097 : Int64)) - (1 : Int64))) * (146097 : Int64)))) + (591 : Int64)) / (146097 : Int64)) - (1 : Int64)) / (4 : Int64))) - ((((((400 : Int64) * (((q + (719528 : Int64)) - (60 : Int64)) + ((-(((((q + (719528 : Int64)) - (60 : Int64)) + (1 : Int64)) / (146097 : Int64)) - (1 : Int64))) * (146097 : Int64)))) + (591 : Int64)) / (146097 : Int64)) - (1 : Int64)) / (100 : Int64)))), (.long (((q + (719528 : Int64)) - (60 : Int64)) + ((-(((((q + (719528 : Int64)) - (60 : Int64)) + (1 : Int64)) / (146097 : Int64)) - (1 : Int64))) * (146097 : Int64))))])) (fun _ hk => XS.lsub X2.here hx rfl (hb hby d1_137) rfl hk) ?_
      refine own_st (V := T2.setTop (mkF m 140 #[.val (.long q), .second, .val (.long (((q + (719528 : Int64)) - (60 : Int64)) + ((-(((((q + (719528 : Int64)) - (60 : Int64)) + (1 : Int64)) / (146097 : Int64)) - (1 : Int64))) * (146097 : Int64)))), .second, .val (.long ((((((q + (719528 : Int64)) - (60 : Int64)) + (1 : Int64)) / (146097 : Int64)) - (1 : Int64)) * (400 : Int64))), .second, .val (.long (((((400 : Int64) * (((q + (719528 : Int64)) - (60 : Int64)) + ((-(((((q + (719528 : Int64)) - (60 : Int64)) + (1 : Int64)) / (146097 : Int64)) - (1 : Int64))) * (146097 : Int64)))) + (591 : Int64)) / (146097 : Int64)) - (1 : Int64))), .second, .val (.long ((((q + (719528 : Int64)) - (60 : Int64)) + ((-(((((q + (719528 : Int64)) - (60 : Int64)) + (1 : Int64)) / (146097 : Int64)) - (1 : Int64))) * (146097 : Int64))) - (((((365 : Int64) * ((((400 : Int64) * (((q + (719528 : Int64)) - (60 : Int64)) + ((-(((((q + (719528 : Int64)) - (60 : Int64)) + (1 : Int64)) / (146097 : Int64)) - (1 : Int64))) * (146097 : Int64)))) + (591 : Int64)) / (146097 : Int64))) + (((((400 : Int64) * (((q + (719528 : Int64)) - (60 : Int64)) + ((-(((((q + (719528 : Int64)) - (60 : Int64)) + (1 : Int64)) / (146097 : Int64)) - (1 : Int64))) * (146097 : Int64)))) + (591 : Int64)) / (146097 : Int64)) / (4 : Int64))) - (((((400 : Int64) * (((q + (719528 : Int64)) - (60 : Int64)) + ((-(((((q + (719528 : Int64)) - (60 : Int64)) + (1 : Int64)) / (146097 : Int64)) - (1 : Int64))) * (146097 : Int64)))) + (591 : Int64)) / (146097 : Int64)) / (100 : Int64))) + (((((400 : Int64) * (((q + (719528 : Int64)) - (60 : Int64)) + ((-(((((q + (719528 : Int64)) - (60 : Int64)) + (1 : Int64)) / (146097 : Int64)) - (1 : Int64))) * (146097 : Int64)))) + (591 : Int64)) / (146097 : Int64)) / (400 : Int64))))), .second, .unset, .unset, .unset, .unset] [(.long (((((400 : Int64) * (((q + (719528 : Int64)) - (60 : Int64)) + ((-(((((q + (719528 : Int64)) - (60 : Int64)) + (1 : Int64)) / (146097 : Int64)) - (1 : Int64))) * (146097 : Int64)))) + (591 : Int64)) / (146097 : Int64)) - (1 : Int64))), (.long ((((365 : Int64) * (((((400 : Int64) * (((q + (719528 : Int64)) - (60 : Int64)) + ((-(((((q + (719528 : Int64)) - (60 : Int64)) + (1 : Int64)) / (146097 : Int64)) - (1 : Int64))) * (146097 : Int64)))) + (591 : Int64)) / (146097 : Int64)) - (1 : Int64))) + ((((((400 : Int64) * (((q + (719528 : Int64)) - (60 : Int64)) + ((-(((((q + (719528 : Int64)) - (60 : Int64)) + (1 : Int64)) / (146097 : Int64)) - (1 : Int64))) * (146097 : Int64)))) + (591 : Int64)) / (146097 : Int64)) - (1 : Int64)) / (4 : Int64))) - ((((((400 : Int64) * (((q + (719528 : Int64)) - (60 : Int64)) + ((-(((((q + (719528 : Int64)) - (60 : Int64)) + (1 : Int64)) / (146097 : Int64)) - (1 : Int64))) * (146097 : Int64)))) + (591 : Int64)) / (146097 : Int64)) - (1 : Int64)) / (100 : Int64)))), (.long (((q + (719528 : Int64)) - (60 : Int64)) + ((-(((((q + (719528 : Int64)) - (60 : Int64)) + (1 : Int64)) / (146097 : Int64)) - (1 : Int64))) * (146097 : Int64))))])) (fun _ hk => XS.lload X2.here hx rfl (hb hby d1_138) rfl  hk) ?_
      refine own_st (V := T2.setTop (mkF m 143 #[.val (.long q), .second, .val (.long (((q + (719528 : Int64)) - (60 : Int64)) + ((-(((((q + (719528 : Int64)) - (60 : Int64)) + (1 : Int64)) / (146097 : Int64)) - (1 : Int64))) * (146097 : Int64)))), .second, .val (.long ((((((q + (719528 : Int64)) - (60 : Int64)) + (1 : Int64)) / (146097 : Int64)) - (1 : Int64)) * (400 : Int64))), .second, .val (.long (((((400 : Int64) * (((q + (719528 : Int64)) - (60 : Int64)) + ((-(((((q + (719528 : Int64)) - (60 : Int64)) + (1 : Int64)) / (146097 : Int64)) - (1 : Int64))) * (146097 : Int64)))) + (591 : Int64)) / (146097 : Int64)) - (1 : Int64))), .second, .val (.long ((((q + (719528 : Int64)) - (60 : Int64)) + ((-(((((q + (719528 : Int64)) - (60 : Int64)) + (1 : Int64)) / (146097 : Int64)) - (1 : Int64))) * (146097 : Int64))) - (((((365 : Int64) * ((((400 : Int64) * (((q + (719528 : Int64)) - (60 : Int64)) + ((-(((((q + (719528 : Int64)) - (60 : Int64)) + (1 : Int64)) / (146097 : Int64)) - (1 : Int64))) * (146097 : Int64)))) + (591 : Int64)) / (146097 : Int64))) + (((((400 : Int64) * (((q + (719528 : Int64)) - (60 : Int64)) + ((-(((((q + (719528 : Int64)) - (60 : Int64)) + (1 : Int64)) / (146097 : Int64)) - (1 : Int64))) * (146097 : Int64)))) + (591 : Int64)) / (146097 : Int64)) / (4 : Int64))) - (((((400 : Int64) * (((q + (719528 : Int64)) - (60 : Int64)) + ((-(((((q + (719528 : Int64)) - (60 : Int64)) + (1 : Int64)) / (146097 : Int64)) - (1 : Int64))) * (146097 : Int64)))) + (591 : Int64)) / (146097 : Int64)) / (100 : Int64))) + (((((400 : Int64) * (((q + (719528 : Int64)) - (60 : Int64)) + ((-(((((q + (719528 : Int64)) - (60 : Int64)) + (1 : Int64)) / (146097 : Int64)) - (1 : Int64))) * (146097 : Int64)))) + (591 : Int64)) / (146097 : Int64)) / (400 : Int64))))), .second, .unset, .unset, .unset, .unset] [(.long (400 : Int64)), (.long (((((400 : Int64) * (((q + (719528 : Int64)) - (60 : Int64)) + ((-(((((q + (719528 : Int64)) - (60 : Int64)) + (1 : Int64)) / (146097 : Int64)) - (1 : Int64))) * (146097 : Int64)))) + (591 : Int64)) / (146097 : Int64)) - (1 : Int64))), (.long ((((365 : Int64) * (((((400 : Int64) * (((q + (719528 : Int64)) - (60 : Int64)) + ((-(((((q + (719528 : Int64)) - (60 : Int64)) + (1 : Int64)) / (146097 : Int64)) - (1 : Int64))) * (146097 : Int64)))) + (591 : Int64)) / (146097 : Int64)) - (1 : Int64))) + ((((((400 : Int64) * (((q + (719528 : Int64)) - (60 : Int64)) + ((-(((((q + (719528 : Int64)) - (60 : Int64)) + (1 : Int64)) / (146097 : Int64)) - (1 : Int64))) * (146097 : Int64)))) + (591 : Int64)) / (146097 : Int64)) - (1 : Int64)) / (4 : Int64))) - ((((((400 : Int64) * (((q + (719528 : Int64)) - (60 : Int64)) + ((-(((((q + (719528 : Int64)) - (60 : Int64)) + (1 : Int64)) / (146097 : Int64)) - (1 : Int64))) * (146097 : Int64)))) + (591 : Int64)) / (146097 : Int64)) - (1 : Int64)) / (100 : Int64)))), (.long (((q + (719528 : Int64)) - (60 : Int64)) + ((-(((((q + (719528 : Int64)) - (60 : Int64)) + (1 : Int64)) / (146097 : Int64)) - (1 : Int64))) * (146097 : Int64))))])) (X2.ldc2Long hx hown (mvT hZ (hw _ (List.mem_of_getElem? (i := 46) rfl))) (g := (mkF m 140 #[.val (.long q), .second, .val (.long (((q + (719528 : Int64)) - (60 : Int64)) + ((-(((((q + (719528 : Int64)) - (60 : Int64)) + (1 : Int64)) / (146097 : Int64)) - (1 : Int64))) * (146097 : Int64)))), .second, .val (.long ((((((q + (719528 : Int64)) - (60 : Int64)) + (1 : Int64)) / (146097 : Int64)) - (1 : Int64)) * (400 : Int64))), .second, .val (.long (((((400 : Int64) * (((q + (719528 : Int64)) - (60 : Int64)) + ((-(((((q + (719528 : Int64)) - (60 : Int64)) + (1 : Int64)) / (146097 : Int64)) - (1 : Int64))) * (146097 : Int64)))) + (591 : Int64)) / (146097 : Int64)) - (1 : Int64))), .second, .val (.long ((((q + (719528 : Int64)) - (60 : Int64)) + ((-(((((q + (719528 : Int64)) - (60 : Int64)) + (1 : Int64)) / (146097 : Int64)) - (1 : Int64))) * (146097 : Int64))) - (((((365 : Int64) * ((((400 : Int64) * (((q + (719528 : Int64)) - (60 : Int64)) + ((-(((((q + (719528 : Int64)) - (60 : Int64)) + (1 : Int64)) / (146097 : Int64)) - (1 : Int64))) * (146097 : Int64)))) + (591 : Int64)) / (146097 : Int64))) + (((((400 : Int64) * (((q + (719528 : Int64)) - (60 : Int64)) + ((-(((((q + (719528 : Int64)) - (60 : Int64)) + (1 : Int64)) / (146097 : Int64)) - (1 : Int64))) * (146097 : Int64)))) + (591 : Int64)) / (146097 : Int64)) / (4 : Int64))) - (((((400 : Int64) * (((q + (719528 : Int64)) - (60 : Int64)) + ((-(((((q + (719528 : Int64)) - (60 : Int64)) + (1 : Int64)) / (146097 : Int64)) - (1 : Int64))) * (146097 : Int64)))) + (591 : Int64)) / (146097 : Int64)) / (100 : Int64))) + (((((400 : Int64) * (((q + (719528 : Int64)) - (60 : Int64)) + ((-(((((q + (719528 : Int64)) - (60 : Int64)) + (1 : Int64)) / (146097 : Int64)) - (1 : Int64))) * (146097 : Int64)))) + (591 : Int64)) / (146097 : Int64)) / (400 : Int64))))), .second, .unset, .unset, .unset, .unset] [(.long (((((400 : Int64) * (((q + (719528 : Int64)) - (60 : Int64)) + ((-(((((q + (719528 : Int64)) - (60 : Int64)) + (1 : Int64)) / (146097 : Int64)) - (1 : Int64))) * (146097 : Int64)))) + (591 : Int64)) / (146097 : Int64)) - (1 : Int64))), (.long ((((365 : Int64) * (((((400 : Int64) * (((q + (719528 : Int64)) - (60 : Int64)) + ((-(((((q + (719528 : Int64)) - (60 : Int64)) + (1 : Int64)) / (146097 : Int64)) - (1 : Int64))) * (146097 : Int64)))) + (591 : Int64)) / (146097 : Int64)) - (1 : Int64))) + ((((((400 : Int64) * (((q + (719528 : Int64)) - (60 : Int64)) + ((-(((((q + (719528 : Int64)) - (60 : Int64)) + (1 : Int64)) / (146097 : Int64)) - (1 : Int64))) * (146097 : Int64)))) + (591 : Int64)) / (146097 : Int64)) - (1 : Int64)) / (4 : Int64))) - ((((((400 : Int64) * (((q + (719528 : Int64)) - (60 : Int64)) + ((-(((((q + (719528 : Int64)) - (60 : Int64)) + (1 : Int64)) / (146097 : Int64)) - (1 : Int64))) * (146097 : Int64)))) + (591 : Int64)) / (146097 : Int64)) - (1 : Int64)) / (100 : Int64)))), (.long (((q + (719528 : Int64)) - (60 : Int64)) + ((-(((((q + (719528 : Int64)) - (60 : Int64)) + (1 : Int64)) / (146097 : Int64)) - (1 : Int64))) * (146097 : Int64))))])) rfl (hb hby d1_140)) ?_
      refine own_st (V := T2.setTop (mkF m 144 #[.val (.long q), .second, .val (.long (((q + (719528 : Int64)) - (60 : Int64)) + ((-(((((q + (719528 : Int64)) - (60 : Int64)) + (1 : Int64)) / (146097 : Int64)) - (1 : Int64))) * (146097 : Int64)))), .second, .val (.long ((((((q + (719528 : Int64)) - (60 : Int64)) + (1 : Int64)) / (146097 : Int64)) - (1 : Int64)) * (400 : Int64))), .second, .val (.long (((((400 : Int64) * (((q + (719528 : Int64)) - (60 : Int64)) + ((-(((((q + (719528 : Int64)) - (60 : Int64)) + (1 : Int64)) / (146097 : Int64)) - (1 : Int64))) * (146097 : Int64)))) + (591 : Int64)) / (146097 : Int64)) - (1 : Int64))), .second, .val (.long ((((q + (719528 : Int64)) - (60 : Int64)) + ((-(((((q + (719528 : Int64)) - (60 : Int64)) + (1 : Int64)) / (146097 : Int64)) - (1 : Int64))) * (146097 : Int64))) - (((((365 : Int64) * ((((400 : Int64) * (((q + (719528 : Int64)) - (60 : Int64)) + ((-(((((q + (719528 : Int64)) - (60 : Int64)) + (1 : Int64)) / (146097 : Int64)) - (1 : Int64))) * (146097 : Int64)))) + (591 : Int64)) / (146097 : Int64))) + (((((400 : Int64) * (((q + (719528 : Int64)) - (60 : Int64)) + ((-(((((q + (719528 : Int64)) - (60 : Int64)) + (1 : Int64)) / (146097 : Int64)) - (1 : Int64))) * (146097 : Int64)))) + (591 : Int64)) / (146097 : Int64)) / (4 : Int64))) - (((((400 : Int64) * (((q + (719528 : Int64)) - (60 : Int64)) + ((-(((((q + (719528 : Int64)) - (60 : Int64)) + (1 : Int64)) / (146097 : Int64)) - (1 : Int64))) * (146097 : Int64)))) + (591 : Int64)) / (146097 : Int64)) / (100 : Int64))) + (((((400 : Int64) * (((q + (719528 : Int64)) - (60 : Int64)) + ((-(((((q + (719528 : Int64)) - (60 : Int64)) + (1 : Int64)) / (146097 : Int64)) - (1 : Int64))) * (146097 : Int64)))) + (591 : Int64)) / (146097 : Int64)) / (400 : Int64))))), .second, .unset, .unset, .unset, .unset] [(.long ((((((400 : Int64) * (((q + (719528 : Int64)) - (60 : Int64)) + ((-(((((q + (719528 : Int64)) - (60 : Int64)) + (1 : Int64)) / (146097 : Int64)) - (1 : Int64))) * (146097 : Int64)))) + (591 : Int64)) / (146097 : Int64)) - (1 : Int64)) / (400 : Int64))), (.long ((((365 : Int64) * (((((400 : Int64) * (((q + (719528 : Int64)) - (60 : Int64)) + ((-(((((q + (719528 : Int64)) - (60 : Int64)) + (1 : Int64)) / (146097 : Int64)) - (1 : Int64))) * (146097 : Int64)))) + (591 : Int64)) / (146097 : Int64)) - (1 : Int64))) + ((((((400 : Int64) * (((q + (719528 : Int64)) - (60 : Int64)) + ((-(((((q + (719528 : Int64)) - (60 : Int64)) + (1 : Int64)) / (146097 : Int64)) - (1 : Int64))) * (146097 : Int64)))) + (591 : Int64)) / (146097 : Int64)) - (1 : Int64)) / (4 : Int64))) - ((((((400 : Int64) * (((q + (719528 : Int64)) - (60 : Int64)) + ((-(((((q + (719528 : Int64)) - (60 : Int64)) + (1 : Int64)) / (146097 : Int64)) - (1 : Int64))) * (146097 : Int64)))) + (591 : Int64)) / (146097 : Int64)) - (1 : Int64)) / (100 : Int64)))), (.long (((q + (719528 : Int64)) - (60 : Int64)) + ((-(((((q + (719528 : Int64)) - (60 : Int64)) + (1 : Int64)) / (146097 : Int64)) - (1 : Int64))) * (146097 : Int64))))])) (fun _ hk => XS.ldiv X2.here hx rfl (hb hby d1_143) rfl (by decide) hk) ?_
      refine own_st (V := T2.setTop (mkF m 145 #[.val (.long q), .second, .val (.long (((q + (719528 : Int64)) - (60 : Int64)) + ((-(((((q + (719528 : Int64)) - (60 : Int64)) + (1 : Int64)) / (146097 : Int64)) - (1 : Int64))) * (146097 : Int64)))), .second, .val (.long ((((((q + (719528 : Int64)) - (60 : Int64)) + (1 : Int64)) / (146097 : Int64)) - (1 : Int64)) * (400 : Int64))), .second, .val (.long (((((400 : Int64) * (((q + (719528 : Int64)) - (60 : Int64)) + ((-(((((q + (719528 : Int64)) - (60 : Int64)) + (1 : Int64)) / (146097 : Int64)) - (1 : Int64))) * (146097 : Int64)))) + (591 : Int64)) / (146097 : Int64)) - (1 : Int64))), .second, .val (.long ((((q + (719528 : Int64)) - (60 : Int64)) + ((-(((((q + (719528 : Int64)) - (60 : Int64)) + (1 : Int64)) / (146097 : Int64)) - (1 : Int64))) * (146097 : Int64))) - (((((365 : Int64) * ((((400 : Int64) * (((q + (719528 : Int64)) - (60 : Int64)) + ((-(((((q + (719528 : Int64)) - (60 : Int64)) + (1 : Int64)) / (146097 : Int64)) - (1 : Int64))) * (146097 : Int64)))) + (591 : Int64)) / (146097 : Int64))) + (((((400 : Int64) * (((q + (719528 : Int64)) - (60 : Int64)) + ((-(((((q + (719528 : Int64)) - (60 : Int64)) + (1 : Int64)) / (146097 : Int64)) - (1 : Int64))) * (146097 : Int64)))) + (591 : Int64)) / (146097 : Int64)) / (4 : Int64))) - (((((400 : Int64) * (((q + (719528 : Int64)) - (60 : Int64)) + ((-(((((q + (719528 : Int64)) - (60 : Int64)) + (1 : Int64)) / (146097 : Int64)) - (1 : Int64))) * (146097 : Int64)))) + (591 : Int64)) / (146097 : Int64)) / (100 : Int64))) + (((((400 : Int64) * (((q + (719528 : Int64)) - (60 : Int64)) + ((-(((((q + (719528 : Int64)) - (60 : Int64)) + (1 : Int64)) / (146097 : Int64)) - (1 : Int64))) * (146097 : Int64)))) + (591 : Int64)) / (146097 : Int64)) / (400 : Int64))))), .second, .unset, .unset, .unset, .unset] [(.long (((((365 : Int64) * (((((400 : Int64) * (((q + (719528 : Int64)) - (60 : Int64)) + ((-(((((q + (719528 : Int64)) - (60 : Int64)) + (1 : Int64)) / (146097 : Int64)) - (1 : Int64))) * (146097 : Int64)))) + (591 : Int64)) / (146097 : Int64)) - (1 : Int64))) + ((((((400 : Int64) * (((q + (719528 : Int64)) - (60 : Int64)) + ((-(((((q + (719528 : Int64)) - (60 : Int64)) + (1 : Int64)) / (146097 : Int64)) - (1 : Int64))) * (146097 : Int64)))) + (591 : Int64)) / (146097 : Int64)) - (1 : Int64)) / (4 : Int64))) - ((((((400 : Int64) * (((q + (719528 : Int64)) - (60 : Int64)) + ((-(((((q + (719528 : Int64)) - (60 : Int64)) + (1 : Int64)) / (146097 : Int64)) - (1 : Int64))) * (146097 : Int64)))) + (591 : Int64)) / (146097 : Int64)) - (1 : Int64)) / (100 : Int64))) + ((((((400 : Int64) * (((q + (719528 : Int64)) - (60 : Int64)) + ((-(((((q + (719528 : Int64)) - (60 : Int64)) + (1 : Int64)) / (146097 : Int64)) - (1 : Int64))) * (146097 : Int64)))) + (591 : Int64)) / (146097 : Int64)) - (1 : Int64)) / (400 : Int64)))), (.long (((q + (719528 : Int64)) - (60 : Int64)) + ((-(((((q + (719528 : Int64)) - (60 : Int64)) + (1 : Int64)) / (146097 : Int64)) - (1 : Int64))) * (146097 : Int64))))])) (fun _ hk => XS.ladd X2.here hx rfl (hb hby d1_144) rfl hk) ?_
      refine own_st (V := T2.setTop (mkF m 146 #[.val (.long q), .second, .val (.long (((q + (719528 : Int64)) - (60 : Int64)) + ((-(((((q + (719528 : Int64)) - (60 : Int64)) + (1 : Int64)) / (146097 : Int64)) - (1 : Int64))) * (146097 : Int64)))), .second, .val (.long ((((((q + (719528 : Int64)) - (60 : Int64)) + (1 : Int64)) / (146097 : Int64)) - (1 : Int64)) * (400 : Int64))), .second, .val (.long (((((400 : Int64) * (((q + (719528 : Int64)) - (60 : Int64)) + ((-(((((q + (719528 : Int64)) - (60 : Int64)) + (1 : Int64)) / (146097 : Int64)) - (1 : Int64))) * (146097 : Int64)))) + (591 : Int64)) / (146097 : Int64)) - (1 : Int64))), .second, .val (.long ((((q + (719528 : Int64)) - (60 : Int64)) + ((-(((((q + (719528 : Int64)) - (60 : Int64)) + (1 : Int64)) / (146097 : Int64)) - (1 : Int64))) * (146097 : Int64))) - (((((365 : Int64) * ((((400 : Int64) * (((q + (719528 : Int64)) - (60 : Int64)) + ((-(((((q + (719528 : Int64)) - (60 : Int64)) + (1 : Int64)) / (146097 : Int64)) - (1 : Int64))) * (146097 : Int64)))) + (591 : Int64)) / (146097 : Int64))) + (((((400 : Int64) * (((q + (719528 : Int64)) - (60 : Int64)) + ((-(((((q + (719528 : Int64)) - (60 : Int64)) + (1 : Int64)) / (146097 : Int64)) - (1 : Int64))) * (146097 : Int64)))) + (591 : Int64)) / (146097 : Int64)) / (4 : Int64))) - (((((400 : Int64) * (((q + (719528 : Int64)) - (60 : Int64)) + ((-(((((q + (719528 : Int64)) - (60 : Int64)) + (1 : Int64)) / (146097 : Int64)) - (1 : Int64))) * (146097 : Int64)))) + (591 : Int64)) / (146097 : Int64)) / (100 : Int64))) + (((((400 : Int64) * (((q + (719528 : Int64)) - (60 : Int64)) + ((-(((((q + (719528 : Int64)) - (60 : Int64)) + (1 : Int64)) / (146097 : Int64)) - (1 : Int64))) * (146097 : Int64)))) + (591 : Int64)) / (146097 : Int64)) / (400 : Int64))))), .second, .unset, .unset, .unset, .unset] [(.long ((((q + (719528 : Int64)) - (60 : Int64)) + ((-(((((q + (719528 : Int64)) - (60 : Int64)) + (1 : Int64)) / (146097 : Int64)) - (1 : Int64))) * (146097 : Int64))) - (((((365 : Int64) * (((((400 : Int64) * (((q + (719528 : Int64)) - (60 : Int64)) + ((-(((((q + (719528 : Int64)) - (60 : Int64)) + (1 : Int64)) / (146097 : Int64)) - (1 : Int64))) * (146097 : Int64)))) + (591 : Int64)) / (146097 : Int64)) - (1 : Int64))) + ((((((400 : Int64) * (((q + (719528 : Int64)) - (60 : Int64)) + ((-(((((q + (719528 : Int64)) - (60 : Int64)) + (1 : Int64)) / (146097 : Int64)) - (1 : Int64))) * (146097 : Int64)))) + (591 : Int64)) / (146097 : Int64)) - (1 : Int64)) / (4 : Int64))) - ((((((400 : Int64) * (((q + (719528 : Int64)) - (60 : Int64)) + ((-(((((q + (719528 : Int64)) - (60 : Int64)) + (1 : Int64)) / (146097 : Int64)) - (1 : Int64))) * (146097 : Int64)))) + (591 : Int64)) / (146097 : Int64)) - (1 : Int64)) / (100 : Int64))) + ((((((400 : Int64) * (((q + (719528 : Int64)) - (60 : Int64)) + ((-(((((q + (719528 : Int64)) - (60 : Int64)) + (1 : Int64)) / (146097 : Int64)) - (1 : Int64))) * (146097 : Int64)))) + (591 : Int64)) / (146097 : Int64)) - (1 : Int64)) / (400 : Int64)))))])) (fun _ hk => XS.lsub X2.here hx rfl (hb hby d1_145) rfl hk) ?_
      refine own_st (V := T2.setTop (mkF m 148 #[.val (.long q), .second, .val (.long (((q + (719528 : Int64)) - (60 : Int64)) + ((-(((((q + (719528 : Int64)) - (60 : Int64)) + (1 : Int64)) / (146097 : Int64)) - (1 : Int64))) * (146097 : Int64)))), .second, .val (.long ((((((q + (719528 : Int64)) - (60 : Int64)) + (1 : Int64)) / (146097 : Int64)) - (1 : Int64)) * (400 : Int64))), .second, .val (.long (((((400 : Int64) * (((q + (719528 : Int64)) - (60 : Int64)) + ((-(((((q + (719528 : Int64)) - (60 : Int64)) + (1 : Int64)) / (146097 : Int64)) - (1 : Int64))) * (146097 : Int64)))) + (591 : Int64)) / (146097 : Int64)) - (1 : Int64))), .second, .val (.long ((((q + (719528 : Int64)) - (60 : Int64)) + ((-(((((q + (719528 : Int64)) - (60 : Int64)) + (1 : Int64)) / (146097 : Int64)) - (1 : Int64))) * (146097 : Int64))) - (((((365 : Int64) * (((((400 : Int64) * (((q + (719528 : Int64)) - (60 : Int64)) + ((-(((((q + (719528 : Int64)) - (60 : Int64)) + (1 : Int64)) / (146097 : Int64)) - (1 : Int64))) * (146097 : Int64)))) + (591 : Int64)) / (146097 : Int64)) - (1 : Int64))) + ((((((400 : Int64) * (((q + (719528 : Int64)) - (60 : Int64)) + ((-(((((q + (719528 : Int64)) - (60 : Int64)) + (1 : Int64)) / (146097 : Int64)) - (1 : Int64))) * (146097 : Int64)))) + (591 : Int64)) / (146097 : Int64)) - (1 : Int64)) / (4 : Int64))) - ((((((400 : Int64) * (((q + (719528 : Int64)) - (60 : Int64)) + ((-(((((q + (719528 : Int64)) - (60 : Int64)) + (1 : Int64)) / (146097 : Int64)) - (1 : Int64))) * (146097 : Int64)))) + (591 : Int64)) / (146097 : Int64)) - (1 : Int64)) / (100 : Int64))) + ((((((400 : Int64) * (((q + (719528 : Int64)) - (60 : Int64)) + ((-(((((q + (719528 : Int64)) - (60 : Int64)) + (1 : Int64)) / (146097 : Int64)) - (1 : Int64))) * (146097 : Int64)))) + (591 : Int64)) / (146097 : Int64)) - (1 : Int64)) / (400 : Int64))))), .second, .unset, .unset, .unset, .unset] [])) (fun _ hk => XS.lstore X2.here hx rfl (hb hby d1_146) rfl  (l' := #[.val (.long q), .second, .val (.long (((q + (719528 : Int64)) - (60 : Int64)) + ((-(((((q + (719528 : Int64)) - (60 : Int64)) + (1 : Int64)) / (146097 : Int64)) - (1 : Int64))) * (146097 : Int64)))), .second, .val (.long ((((((q + (719528 : Int64)) - (60 : Int64)) + (1 : Int64)) / (146097 : Int64)) - (1 : Int64)) * (400 : Int64))), .second, .val (.long (((((400 : Int64) * (((q + (719528 : Int64)) - (60 : Int64)) + ((-(((((q + (719528 : Int64)) - (60 : Int64)) + (1 : Int64)) / (146097 : Int64)) - (1 : Int64))) * (146097 : Int64)))) + (591 : Int64)) / (146097 : Int64)) - (1 : Int64))), .second, .val (.long ((((q + (719528 : Int64)) - (60 : Int64)) + ((-(((((q + (719528 : Int64)) - (60 : Int64)) + (1 : Int64)) / (146097 : Int64)) - (1 : Int64))) * (146097 : Int64))) - (((((365 : Int64) * (((((400 : Int64) * (((q + (719528 : Int64)) - (60 : Int64)) + ((-(((((q + (719528 : Int64)) - (60 : Int64)) + (1 : Int64)) / (146097 : Int64)) - (1 : Int64))) * (146097 : Int64)))) + (591 : Int64)) / (146097 : Int64)) - (1 : Int64))) + ((((((400 : Int64) * (((q + (719528 : Int64)) - (60 : Int64)) + ((-(((((q + (719528 : Int64)) - (60 : Int64)) + (1 : Int64)) / (146097 : Int64)) - (1 : Int64))) * (146097 : Int64)))) + (591 : Int64)) / (146097 : Int64)) - (1 : Int64)) / (4 : Int64))) - ((((((400 : Int64) * (((q + (719528 : Int64)) - (60 : Int64)) + ((-(((((q + (719528 : Int64)) - (60 : Int64)) + (1 : Int64)) / (146097 : Int64)) - (1 : Int64))) * (146097 : Int64)))) + (591 : Int64)) / (146097 : Int64)) - (1 : Int64)) / (100 : Int64))) + ((((((400 : Int64) * (((q + (719528 : Int64)) - (60 : Int64)) + ((-(((((q + (719528 : Int64)) - (60 : Int64)) + (1 : Int64)) / (146097 : Int64)) - (1 : Int64))) * (146097 : Int64)))) + (591 : Int64)) / (146097 : Int64)) - (1 : Int64)) / (400 : Int64))))), .second, .unset, .unset, .unset, .unset]) rfl hk) ?_
      exact J148 _ _ _ _
    · skip
      refine own_st (V := T2.setTop (mkF m 148 #[.val (.long q), .second, .val (.long (((q + (719528 : Int64)) - (60 : Int64)) + ((-(((((q + (719528 : Int64)) - (60 : Int64)) + (1 : Int64)) / (146097 : Int64)) - (1 : Int64))) * (146097 : Int64)))), .second, .val (.long ((((((q + (719528 : Int64)) - (60 : Int64)) + (1 : Int64)) / (146097 : Int64)) - (1 : Int64)) * (400 : Int64))), .second, .val (.long ((((400 : Int64) * (((q + (719528 : Int64)) - (60 : Int64)) + ((-(((((q + (719528 : Int64)) - (60 : Int64)) + (1 : Int64)) / (146097 : Int64)) - (1 : Int64))) * (146097 : Int64)))) + (591 : Int64)) / (146097 : Int64))), .second, .val (.long ((((q + (719528 : Int64)) - (60 : Int64)) + ((-(((((q + (719528 : Int64)) - (60 : Int64)) + (1 : Int64)) / (146097 : Int64)) - (1 : Int64))) * (146097 : Int64))) - (((((365 : Int64) * ((((400 : Int64) * (((q + (719528 : Int64)) - (60 : Int64)) + ((-(((((q + (719528 : Int64)) - (60 : Int64)) + (1 : Int64)) / (146097 : Int64)) - (1 : Int64))) * (146097 : Int64)))) + (591 : Int64)) / (146097 : Int64))) + (((((400 : Int64) * (((q + (719528 : Int64)) - (60 : Int64)) + ((-(((((q + (719528 : Int64)) - (60 : Int64)) + (1 : Int64)) / (146097 : Int64)) - (1 : Int64))) * (146097 : Int64)))) + (591 : Int64)) / (146097 : Int64)) / (4 : Int64))) - (((((400 : Int64) * (((q + (719528 : Int64)) - (60 : Int64)) + ((-(((((q + (719528 : Int64)) - (60 : Int64)) + (1 : Int64)) / (146097 : Int64)) - (1 : Int64))) * (146097 : Int64)))) + (591 : Int64)) / (146097 : Int64)) / (100 : Int64))) + (((((400 : Int64) * (((q + (719528 : Int64)) - (60 : Int64)) + ((-(((((q + (719528 : Int64)) - (60 : Int64)) + (1 : Int64)) / (146097 : Int64)) - (1 : Int64))) * (146097 : Int64)))) + (591 : Int64)) / (146097 : Int64)) / (400 : Int64))))), .second, .unset, .unset, .unset, .unset] [])) (fun _ hk => XS.ifYes X2.here hx rfl (pc0 := 108) (pc' := 148) rfl (hb hby d1_108) rfl ((if0 _ _).trans (flt (show ¬ ((lcmpW ((((q + (719528 : Int64)) - (60 : Int64)) + ((-(((((q + (719528 : Int64)) - (60 : Int64)) + (1 : Int64)) / (146097 : Int64)) - (1 : Int64))) * (146097 : Int64))) - (((((365 : Int64) * ((((400 : Int64) * (((q + (719528 : Int64)) - (60 : Int64)) + ((-(((((q + (719528 : Int64)) - (60 : Int64)) + (1 : Int64)) / (146097 : Int64)) - (1 : Int64))) * (146097 : Int64)))) + (591 : Int64)) / (146097 : Int64))) + (((((400 : Int64) * (((q + (719528 : Int64)) - (60 : Int64)) + ((-(((((q + (719528 : Int64)) - (60 : Int64)) + (1 : Int64)) / (146097 : Int64)) - (1 : Int64))) * (146097 : Int64)))) + (591 : Int64)) / (146097 : Int64)) / (4 : Int64))) - (((((400 : Int64) * (((q + (719528 : Int64)) - (60 : Int64)) + ((-(((((q + (719528 : Int64)) - (60 : Int64)) + (1 : Int64)) / (146097 : Int64)) - (1 : Int64))) * (146097 : Int64)))) + (591 : Int64)) / (146097 : Int64)) / (100 : Int64))) + (((((400 : Int64) * (((q + (719528 : Int64)) - (60 : Int64)) + ((-(((((q + (719528 : Int64)) - (60 : Int64)) + (1 : Int64)) / (146097 : Int64)) - (1 : Int64))) * (146097 : Int64)))) + (591 : Int64)) / (146097 : Int64)) / (400 : Int64)))) (0 : Int64)) < (0 : Int32)) from hc108)).2.1) (by decide) (by decide) hk) ?_
      exact J148 _ _ _ _
  · skip
    refine own_st (V := T2.setTop (mkF m 58 #[.val (.long q), .second, .val (.long ((q + (719528 : Int64)) - (60 : Int64))), .second, .val (.long (0 : Int64)), .second, .unset, .unset, .unset, .unset, .unset, .unset, .unset, .unset] [])) (fun _ hk => XS.ifYes X2.here hx rfl (pc0 := 26) (pc' := 58) rfl (hb hby d1_26) rfl ((if0 _ _).trans (flt (show ¬ ((lcmpW ((q + (719528 : Int64)) - (60 : Int64)) (0 : Int64)) < (0 : Int32)) from hc26)).2.1) (by decide) (by decide) hk) ?_
    refine own_st (V := T2.setTop (mkF m 61 #[.val (.long q), .second, .val (.long ((q + (719528 : Int64)) - (60 : Int64))), .second, .val (.long (0 : Int64)), .second, .unset, .unset, .unset, .unset, .unset, .unset, .unset, .unset] [(.long (400 : Int64))])) (X2.ldc2Long hx hown (mvT hZ (hw _ (List.mem_of_getElem? (i := 46) rfl))) (g := (mkF m 58 #[.val (.long q), .second, .val (.long ((q + (719528 : Int64)) - (60 : Int64))), .second, .val (.long (0 : Int64)), .second, .unset, .unset, .unset, .unset, .unset, .unset, .unset, .unset] [])) rfl (hb hby d1_58)) ?_
    refine own_st (V := T2.setTop (mkF m 62 #[.val (.long q), .second, .val (.long ((q + (719528 : Int64)) - (60 : Int64))), .second, .val (.long (0 : Int64)), .second, .unset, .unset, .unset, .unset, .unset, .unset, .unset, .unset] [(.long ((q + (719528 : Int64)) - (60 : Int64))), (.long (400 : Int64))])) (fun _ hk => XS.lloadN X2.here hx rfl (hb hby d1_61) rfl  hk) ?_
    refine own_st (V := T2.setTop (mkF m 63 #[.val (.long q), .second, .val (.long ((q + (719528 : Int64)) - (60 : Int64))), .second, .val (.long (0 : Int64)), .second, .unset, .unset, .unset, .unset, .unset, .unset, .unset, .unset] [(.long ((400 : Int64) * ((q + (719528 : Int64)) - (60 : Int64))))])) (fun _ hk => XS.lmul X2.here hx rfl (hb hby d1_62) rfl hk) ?_
    refine own_st (V := T2.setTop (mkF m 66 #[.val (.long q), .second, .val (.long ((q + (719528 : Int64)) - (60 : Int64))), .second, .val (.long (0 : Int64)), .second, .unset, .unset, .unset, .unset, .unset, .unset, .unset, .unset] [(.long (591 : Int64)), (.long ((400 : Int64) * ((q + (719528 : Int64)) - (60 : Int64))))])) (X2.ldc2Long hx hown (mvT hZ (hw _ (List.mem_of_getElem? (i := 47) rfl))) (g := (mkF m 63 #[.val (.long q), .second, .val (.long ((q + (719528 : Int64)) - (60 : Int64))), .second, .val (.long (0 : Int64)), .second, .unset, .unset, .unset, .unset, .unset, .unset, .unset, .unset] [(.long ((400 : Int64) * ((q + (719528 : Int64)) - (60 : Int64))))])) rfl (hb hby d1_63)) ?_
    refine own_st (V := T2.setTop (mkF m 67 #[.val (.long q), .second, .val (.long ((q + (719528 : Int64)) - (60 : Int64))), .second, .val (.long (0 : Int64)), .second, .unset, .unset, .unset, .unset, .unset, .unset, .unset, .unset] [(.long (((400 : Int64) * ((q + (719528 : Int64)) - (60 : Int64))) + (591 : Int64)))])) (fun _ hk => XS.ladd X2.here hx rfl (hb hby d1_66) rfl hk) ?_
    refine own_st (V := T2.setTop (mkF m 70 #[.val (.long q), .second, .val (.long ((q + (719528 : Int64)) - (60 : Int64))), .second, .val (.long (0 : Int64)), .second, .unset, .unset, .unset, .unset, .unset, .unset, .unset, .unset] [(.long (146097 : Int64)), (.long (((400 : Int64) * ((q + (719528 : Int64)) - (60 : Int64))) + (591 : Int64)))])) (X2.ldc2Long hx hown (mvT hZ (hw _ (List.mem_of_getElem? (i := 48) rfl))) (g := (mkF m 67 #[.val (.long q), .second, .val (.long ((q + (719528 : Int64)) - (60 : Int64))), .second, .val (.long (0 : Int64)), .second, .unset, .unset, .unset, .unset, .unset, .unset, .unset, .unset] [(.long (((400 : Int64) * ((q + (719528 : Int64)) - (60 : Int64))) + (591 : Int64)))])) rfl (hb hby d1_67)) ?_
    refine own_st (V := T2.setTop (mkF m 71 #[.val (.long q), .second, .val (.long ((q + (719528 : Int64)) - (60 : Int64))), .second, .val (.long (0 : Int64)), .second, .unset, .unset, .unset, .unset, .unset, .unset, .unset, .unset] [(.long ((((400 : Int64) * ((q + (719528 : Int64)) - (60 : Int64))) + (591 : Int64)) / (146097 : Int64)))])) (fun _ hk => XS.ldiv X2.here hx rfl (hb hby d1_70) rfl (by decide) hk) ?_
    refine own_st (V := T2.setTop (mkF m 73 #[.val (.long q), .second, .val (.long ((q + (719528 : Int64)) - (60 : Int64))), .second, .val (.long (0 : Int64)), .second, .val (.long ((((400 : Int64) * ((q + (719528 : Int64)) - (60 : Int64))) + (591 : Int64)) / (146097 : Int64))), .second, .unset, .unset, .unset, .unset, .unset, .unset] [])) (fun _ hk => XS.lstore X2.here hx rfl (hb hby d1_71) rfl  (l' := #[.val (.long q), .second, .val (.long ((q + (719528 : Int64)) - (60 : Int64))), .second, .val (.long (0 : Int64)), .second, .val (.long ((((400 : Int64) * ((q + (719528 : Int64)) - (60 : Int64))) + (591 : Int64)) / (146097 : Int64))), .second, .unset, .unset, .unset, .unset, .unset, .unset]) rfl hk) ?_
    refine own_st (V := T2.setTop (mkF m 74 #[.val (.long q), .second, .val (.long ((q + (719528 : Int64)) - (60 : Int64))), .second, .val (.long (0 : Int64)), .second, .val (.long ((((400 : Int64) * ((q + (719528 : Int64)) - (60 : Int64))) + (591 : Int64)) / (146097 : Int64))), .second, .unset, .unset, .unset, .unset, .unset, .unset] [(.long ((q + (719528 : Int64)) - (60 : Int64)))])) (fun _ hk => XS.lloadN X2.here hx rfl (hb hby d1_73) rfl  hk) ?_
    refine own_st (V := T2.setTop (mkF m 77 #[.val (.long q), .second, .val (.long ((q + (719528 : Int64)) - (60 : Int64))), .second, .val (.long (0 : Int64)), .second, .val (.long ((((400 : Int64) * ((q + (719528 : Int64)) - (60 : Int64))) + (591 : Int64)) / (146097 : Int64))), .second, .unset, .unset, .unset, .unset, .unset, .unset] [(.long (365 : Int64)), (.long ((q + (719528 : Int64)) - (60 : Int64)))])) (X2.ldc2Long hx hown (mvT hZ (hw _ (List.mem_of_getElem? (i := 49) rfl))) (g := (mkF m 74 #[.val (.long q), .second, .val (.long ((q + (719528 : Int64)) - (60 : Int64))), .second, .val (.long (0 : Int64)), .second, .val (.long ((((400 : Int64) * ((q + (719528 : Int64)) - (60 : Int64))) + (591 : Int64)) / (146097 : Int64))), .second, .unset, .unset, .unset, .unset, .unset, .unset] [(.long ((q + (719528 : Int64)) - (60 : Int64)))])) rfl (hb hby d1_74)) ?_
    refine own_st (V := T2.setTop (mkF m 79 #[.val (.long q), .second, .val (.long ((q + (719528 : Int64)) - (60 : Int64))), .second, .val (.long (0 : Int64)), .second, .val (.long ((((400 : Int64) * ((q + (719528 : Int64)) - (60 : Int64))) + (591 : Int64)) / (146097 : Int64))), .second, .unset, .unset, .unset, .unset, .unset, .unset] [(.long ((((400 : Int64) * ((q + (719528 : Int64)) - (60 : Int64))) + (591 : Int64)) / (146097 : Int64))), (.long (365 : Int64)), (.long ((q + (719528 : Int64)) - (60 : Int64)))])) (fun _ hk => XS.lload X2.here hx rfl (hb hby d1_77) rfl  hk) ?_
    refine own_st (V := T2.setTop (mkF m 80 #[.val (.long q), .second, .val (.long ((q + (719528 : Int64)) - (60 : Int64))), .second, .val (.long (0 : Int64)), .second, .val (.long ((((400 : Int64) * ((q + (719528 : Int64)) - (60 : Int64))) + (591 : Int64)) / (146097 : Int64))), .second, .unset, .unset, .unset, .unset, .unset, .unset] [(.long ((365 : Int64) * ((((400 : Int64) * ((q + (719528 : Int64)) - (60 : Int64))) + (591 : Int64)) / (146097 : Int64)))), (.long ((q + (719528 : Int64)) - (60 : Int64)))])) (fun _ hk => XS.lmul X2.here hx rfl (hb hby d1_79) rfl hk) ?_
    refine own_st (V := T2.setTop (mkF m 82 #[.val (.long q), .second, .val (.long ((q + (719528 : Int64)) - (60 : Int64))), .second, .val (.long (0 : Int64)), .second, .val (.long ((((400 : Int64) * ((q + (719528 : Int64)) - (60 : Int64))) + (591 : Int64)) / (146097 : Int64))), .second, .unset, .unset, .unset, .unset, .unset, .unset] [(.long ((((400 : Int64) * ((q + (719528 : Int64)) - (60 : Int64))) + (591 : Int64)) / (146097 : Int64))), (.long ((365 : Int64) * ((((400 : Int64) * ((q + (719528 : Int64)) - (60 : Int64))) + (591 : Int64)) / (146097 : Int64)))), (.long ((q + (719528 : Int64)) - (60 : Int64)))])) (fun _ hk => XS.lload X2.here hx rfl (hb hby d1_80) rfl  hk) ?_
    refine own_st (V := T2.setTop (mkF m 85 #[.val (.long q), .second, .val (.long ((q + (719528 : Int64)) - (60 : Int64))), .second, .val (.long (0 : Int64)), .second, .val (.long ((((400 : Int64) * ((q + (719528 : Int64)) - (60 : Int64))) + (591 : Int64)) / (146097 : Int64))), .second, .unset, .unset, .unset, .unset, .unset, .unset] [(.long (4 : Int64)), (.long ((((400 : Int64) * ((q + (719528 : Int64)) - (60 : Int64))) + (591 : Int64)) / (146097 : Int64))), (.long ((365 : Int64) * ((((400 : Int64) * ((q + (719528 : Int64)) - (60 : Int64))) + (591 : Int64)) / (146097 : Int64)))), (.long ((q + (719528 : Int64)) - (60 : Int64)))])) (X2.ldc2Long hx hown (mvT hZ (hw _ (List.mem_of_getElem? (i := 50) rfl))) (g := (mkF m 82 #[.val (.long q), .second, .val (.long ((q + (719528 : Int64)) - (60 : Int64))), .second, .val (.long (0 : Int64)), .second, .val (.long ((((400 : Int64) * ((q + (719528 : Int64)) - (60 : Int64))) + (591 : Int64)) / (146097 : Int64))), .second, .unset, .unset, .unset, .unset, .unset, .unset] [(.long ((((400 : Int64) * ((q + (719528 : Int64)) - (60 : Int64))) + (591 : Int64)) / (146097 : Int64))), (.long ((365 : Int64) * ((((400 : Int64) * ((q + (719528 : Int64)) - (60 : Int64))) + (591 : Int64)) / (146097 : Int64)))), (.long ((q + (719528 : Int64)) - (60 : Int64)))])) rfl (hb hby d1_82)) ?_
    refine own_st (V := T2.setTop (mkF m 86 #[.val (.long q), .second, .val (.long ((q + (719528 : Int64)) - (60 : Int64))), .second, .val (.long (0 : Int64)), .second, .val (.long ((((400 : Int64) * ((q + (719528 : Int64)) - (60 : Int64))) + (591 : Int64)) / (146097 : Int64))), .second, .unset, .unset, .unset, .unset, .unset, .unset] [(.long (((((400 : Int64) * ((q + (719528 : Int64)) - (60 : Int64))) + (591 : Int64)) / (146097 : Int64)) / (4 : Int64))), (.long ((365 : Int64) * ((((400 : Int64) * ((q + (719528 : Int64)) - (60 : Int64))) + (591 : Int64)) / (146097 : Int64)))), (.long ((q + (719528 : Int64)) - (60 : Int64)))])) (fun _ hk => XS.ldiv X2.here hx rfl (hb hby d1_85) rfl (by decide) hk) ?_
    refine own_st (V := T2.setTop (mkF m 87 #[.val (.long q), .second, .val (.long ((q + (719528 : Int64)) - (60 : Int64))), .second, .val (.long (0 : Int64)), .second, .val (.long ((((400 : Int64) * ((q + (719528 : Int64)) - (60 : Int64))) + (591 : Int64)) / (146097 : Int64))), .second, .unset, .unset, .unset, .unset, .unset, .unset] [(.long (((365 : Int64) * ((((400 : Int64) * ((q + (719528 : Int64)) - (60 : Int64))) + (591 : Int64)) / (146097 : Int64))) + (((((400 : Int64) * ((q + (719528 : Int64)) - (60 : Int64))) + (591 : Int64)) / (146097 : Int64)) / (4 : Int64)))), (.long ((q + (719528 : Int64)) - (60 : Int64)))])) (fun _ hk => XS.ladd X2.here hx rfl (hb hby d1_86) rfl hk) ?_
    refine own_st (V := T2.setTop (mkF m 89 #[.val (.long q), .second, .val (.long ((q + (719528 : Int64)) - (60 : Int64))), .second, .val (.long (0 : Int64)), .second, .val (.long ((((400 : Int64) * ((q + (719528 : Int64)) - (60 : Int64))) + (591 : Int64)) / (146097 : Int64))), .second, .unset, .unset, .unset, .unset, .unset, .unset] [(.long ((((400 : Int64) * ((q + (719528 : Int64)) - (60 : Int64))) + (591 : Int64)) / (146097 : Int64))), (.long (((365 : Int64) * ((((400 : Int64) * ((q + (719528 : Int64)) - (60 : Int64))) + (591 : Int64)) / (146097 : Int64))) + (((((400 : Int64) * ((q + (719528 : Int64)) - (60 : Int64))) + (591 : Int64)) / (146097 : Int64)) / (4 : Int64)))), (.long ((q + (719528 : Int64)) - (60 : Int64)))])) (fun _ hk => XS.lload X2.here hx rfl (hb hby d1_87) rfl  hk) ?_
    refine own_st (V := T2.setTop (mkF m 92 #[.val (.long q), .second, .val (.long ((q + (719528 : Int64)) - (60 : Int64))), .second, .val (.long (0 : Int64)), .second, .val (.long ((((400 : Int64) * ((q + (719528 : Int64)) - (60 : Int64))) + (591 : Int64)) / (146097 : Int64))), .second, .unset, .unset, .unset, .unset, .unset, .unset] [(.long (100 : Int64)), (.long ((((400 : Int64) * ((q + (719528 : Int64)) - (60 : Int64))) + (591 : Int64)) / (146097 : Int64))), (.long (((365 : Int64) * ((((400 : Int64) * ((q + (719528 : Int64)) - (60 : Int64))) + (591 : Int64)) / (146097 : Int64))) + (((((400 : Int64) * ((q + (719528 : Int64)) - (60 : Int64))) + (591 : Int64)) / (146097 : Int64)) / (4 : Int64)))), (.long ((q + (719528 : Int64)) - (60 : Int64)))])) (X2.ldc2Long hx hown (mvT hZ (hw _ (List.mem_of_getElem? (i := 51) rfl))) (g := (mkF m 89 #[.val (.long q), .second, .val (.long ((q + (719528 : Int64)) - (60 : Int64))), .second, .val (.long (0 : Int64)), .second, .val (.long ((((400 : Int64) * ((q + (719528 : Int64)) - (60 : Int64))) + (591 : Int64)) / (146097 : Int64))), .second, .unset, .unset, .unset, .unset, .unset, .unset] [(.long ((((400 : Int64) * ((q + (719528 : Int64)) - (60 : Int64))) + (591 : Int64)) / (146097 : Int64))), (.long (((365 : Int64) * ((((400 : Int64) * ((q + (719528 : Int64)) - (60 : Int64))) + (591 : Int64)) / (146097 : Int64))) + (((((400 : Int64) * ((q + (719528 : Int64)) - (60 : Int64))) + (591 : Int64)) / (146097 : Int64)) / (4 : Int64)))), (.long ((q + (719528 : Int64)) - (60 : Int64)))])) rfl (hb hby d1_89)) ?_
    refine own_st (V := T2.setTop (mkF m 93 #[.val (.long q), .second, .val (.long ((q + (719528 : Int64)) - (60 : Int64))), .second, .val (.long (0 : Int64)), .second, .val (.long ((((400 : Int64) * ((q + (719528 : Int64)) - (60 : Int64))) + (591 : Int64)) / (146097 : Int64))), .second, .unset, .unset, .unset, .unset, .unset, .unset] [(.long (((((400 : Int64) * ((q + (719528 : Int64)) - (60 : Int64))) + (591 : Int64)) / (146097 : Int64)) / (100 : Int64))), (.long (((365 : Int64) * ((((400 : Int64) * ((q + (719528 : Int64)) - (60 : Int64))) + (591 : Int64)) / (146097 : Int64))) + (((((400 : Int64) * ((q + (719528 : Int64)) - (60 : Int64))) + (591 : Int64)) / (146097 : Int64)) / (4 : Int64)))), (.long ((q + (719528 : Int64)) - (60 : Int64)))])) (fun _ hk => XS.ldiv X2.here hx rfl (hb hby d1_92) rfl (by decide) hk) ?_
    refine own_st (V := T2.setTop (mkF m 94 #[.val (.long q), .second, .val (.long ((q + (719528 : Int64)) - (60 : Int64))), .second, .val (.long (0 : Int64)), .second, .val (.long ((((400 : Int64) * ((q + (719528 : Int64)) - (60 : Int64))) + (591 : Int64)) / (146097 : Int64))), .second, .unset, .unset, .unset, .unset, .unset, .unset] [(.long ((((365 : Int64) * ((((400 : Int64) * ((q + (719528 : Int64)) - (60 : Int64))) + (591 : Int64)) / (146097 : Int64))) + (((((400 : Int64) * ((q + (719528 : Int64)) - (60 : Int64))) + (591 : Int64)) / (146097 : Int64)) / (4 : Int64))) - (((((400 : Int64) * ((q + (719528 : Int64)) - (60 : Int64))) + (591 : Int64)) / (146097 : Int64)) / (100 : Int64)))), (.long ((q + (719528 : Int64)) - (60 : Int64)))])) (fun _ hk => XS.lsub X2.here hx rfl (hb hby d1_93) rfl hk) ?_
    refine own_st (V := T2.setTop (mkF m 96 #[.val (.long q), .second, .val (.long ((q + (719528 : Int64)) - (60 : Int64))), .second, .val (.long (0 : Int64)), .second, .val (.long ((((400 : Int64) * ((q + (719528 : Int64)) - (60 : Int64))) + (591 : Int64)) / (146097 : Int64))), .second, .unset, .unset, .unset, .unset, .unset, .unset] [(.long ((((400 : Int64) * ((q + (719528 : Int64)) - (60 : Int64))) + (591 : Int64)) / (146097 : Int64))), (.long ((((365 : Int64) * ((((400 : Int64) * ((q + (719528 : Int64)) - (60 : Int64))) + (591 : Int64)) / (146097 : Int64))) + (((((400 : Int64) * ((q + (719528 : Int64)) - (60 : Int64))) + (591 : Int64)) / (146097 : Int64)) / (4 : Int64))) - (((((400 : Int64) * ((q + (719528 : Int64)) - (60 : Int64))) + (591 : Int64)) / (146097 : Int64)) / (100 : Int64)))), (.long ((q + (719528 : Int64)) - (60 : Int64)))])) (fun _ hk => XS.lload X2.here hx rfl (hb hby d1_94) rfl  hk) ?_
    refine own_st (V := T2.setTop (mkF m 99 #[.val (.long q), .second, .val (.long ((q + (719528 : Int64)) - (60 : Int64))), .second, .val (.long (0 : Int64)), .second, .val (.long ((((400 : Int64) * ((q + (719528 : Int64)) - (60 : Int64))) + (591 : Int64)) / (146097 : Int64))), .second, .unset, .unset, .unset, .unset, .unset, .unset] [(.long (400 : Int64)), (.long ((((400 : Int64) * ((q + (719528 : Int64)) - (60 : Int64))) + (591 : Int64)) / (146097 : Int64))), (.long ((((365 : Int64) * ((((400 : Int64) * ((q + (719528 : Int64)) - (60 : Int64))) + (591 : Int64)) / (146097 : Int64))) + (((((400 : Int64) * ((q + (719528 : Int64)) - (60 : Int64))) + (591 : Int64)) / (146097 : Int64)) / (4 : Int64))) - (((((400 : Int64) * ((q + (719528 : Int64)) - (60 : Int64))) + (591 : Int64)) / (146097 : Int64)) / (100 : Int64)))), (.long ((q + (719528 : Int64)) - (60 : Int64)))])) (X2.ldc2Long hx hown (mvT hZ (hw _ (List.mem_of_getElem? (i := 46) rfl))) (g := (mkF m 96 #[.val (.long q), .second, .val (.long ((q + (719528 : Int64)) - (60 : Int64))), .second, .val (.long (0 : Int64)), .second, .val (.long ((((400 : Int64) * ((q + (719528 : Int64)) - (60 : Int64))) + (591 : Int64)) / (146097 : Int64))), .second, .unset, .unset, .unset, .unset, .unset, .unset] [(.long ((((400 : Int64) * ((q + (719528 : Int64)) - (60 : Int64))) + (591 : Int64)) / (146097 : Int64))), (.long ((((365 : Int64) * ((((400 : Int64) * ((q + (719528 : Int64)) - (60 : Int64))) + (591 : Int64)) / (146097 : Int64))) + (((((400 : Int64) * ((q + (719528 : Int64)) - (60 : Int64))) + (591 : Int64)) / (146097 : Int64)) / (4 : Int64))) - (((((400 : Int64) * ((q + (719528 : Int64)) - (60 : Int64))) + (591 : Int64)) / (146097 : Int64)) / (100 : Int64)))), (.long ((q + (719528 : Int64)) - (60 : Int64)))])) rfl (hb hby d1_96)) ?_
    refine own_st (V := T2.setTop (mkF m 100 #[.val (.long q), .second, .val (.long ((q + (719528 : Int64)) - (60 : Int64))), .second, .val (.long (0 : Int64)), .second, .val (.long ((((400 : Int64) * ((q + (719528 : Int64)) - (60 : Int64))) + (591 : Int64)) / (146097 : Int64))), .second, .unset, .unset, .unset, .unset, .unset, .unset] [(.long (((((400 : Int64) * ((q + (719528 : Int64)) - (60 : Int64))) + (591 : Int64)) / (146097 : Int64)) / (400 : Int64))), (.long ((((365 : Int64) * ((((400 : Int64) * ((q + (719528 : Int64)) - (60 : Int64))) + (591 : Int64)) / (146097 : Int64))) + (((((400 : Int64) * ((q + (719528 : Int64)) - (60 : Int64))) + (591 : Int64)) / (146097 : Int64)) / (4 : Int64))) - (((((400 : Int64) * ((q + (719528 : Int64)) - (60 : Int64))) + (591 : Int64)) / (146097 : Int64)) / (100 : Int64)))), (.long ((q + (719528 : Int64)) - (60 : Int64)))])) (fun _ hk => XS.ldiv X2.here hx rfl (hb hby d1_99) rfl (by decide) hk) ?_
    refine own_st (V := T2.setTop (mkF m 101 #[.val (.long q), .second, .val (.long ((q + (719528 : Int64)) - (60 : Int64))), .second, .val (.long (0 : Int64)), .second, .val (.long ((((400 : Int64) * ((q + (719528 : Int64)) - (60 : Int64))) + (591 : Int64)) / (146097 : Int64))), .second, .unset, .unset, .unset, .unset, .unset, .unset] [(.long (((((365 : Int64) * ((((400 : Int64) * ((q + (719528 : Int64)) - (60 : Int64))) + (591 : Int64)) / (146097 : Int64))) + (((((400 : Int64) * ((q + (719528 : Int64)) - (60 : Int64))) + (591 : Int64)) / (146097 : Int64)) / (4 : Int64))) - (((((400 : Int64) * ((q + (719528 : Int64)) - (60 : Int64))) + (591 : Int64)) / (146097 : Int64)) / (100 : Int64))) + (((((400 : Int64) * ((q + (719528 : Int64)) - (60 : Int64))) + (591 : Int64)) / (146097 : Int64)) / (400 : Int64)))), (.long ((q + (719528 : Int64)) - (60 : Int64)))])) (fun _ hk => XS.ladd X2.here hx rfl (hb hby d1_100) rfl hk) ?_
    refine own_st (V := T2.setTop (mkF m 102 #[.val (.long q), .second, .val (.long ((q + (719528 : Int64)) - (60 : Int64))), .second, .val (.long (0 : Int64)), .second, .val (.long ((((400 : Int64) * ((q + (719528 : Int64)) - (60 : Int64))) + (591 : Int64)) / (146097 : Int64))), .second, .unset, .unset, .unset, .unset, .unset, .unset] [(.long (((q + (719528 : Int64)) - (60 : Int64)) - (((((365 : Int64) * ((((400 : Int64) * ((q + (719528 : Int64)) - (60 : Int64))) + (591 : Int64)) / (146097 : Int64))) + (((((400 : Int64) * ((q + (719528 : Int64)) - (60 : Int64))) + (591 : Int64)) / (146097 : Int64)) / (4 : Int64))) - (((((400 : Int64) * ((q + (719528 : Int64)) - (60 : Int64))) + (591 : Int64)) / (146097 : Int64)) / (100 : Int64))) + (((((400 : Int64) * ((q + (719528 : Int64)) - (60 : Int64))) + (591 : Int64)) / (146097 : Int64)) / (400 : Int64)))))])) (fun _ hk => XS.lsub X2.here hx rfl (hb hby d1_101) rfl hk) ?_
    refine own_st (V := T2.setTop (mkF m 104 #[.val (.long q), .second, .val (.long ((q + (719528 : Int64)) - (60 : Int64))), .second, .val (.long (0 : Int64)), .second, .val (.long ((((400 : Int64) * ((q + (719528 : Int64)) - (60 : Int64))) + (591 : Int64)) / (146097 : Int64))), .second, .val (.long (((q + (719528 : Int64)) - (60 : Int64)) - (((((365 : Int64) * ((((400 : Int64) * ((q + (719528 : Int64)) - (60 : Int64))) + (591 : Int64)) / (146097 : Int64))) + (((((400 : Int64) * ((q + (719528 : Int64)) - (60 : Int64))) + (591 : Int64)) / (146097 : Int64)) / (4 : Int64))) - (((((400 : Int64) * ((q + (719528 : Int64)) - (60 : Int64))) + (591 : Int64)) / (146097 : Int64)) / (100 : Int64))) + (((((400 : Int64) * ((q + (719528 : Int64)) - (60 : Int64))) + (591 : Int64)) / (146097 : Int64)) / (400 : Int64))))), .second, .unset, .unset, .unset, .unset] [])) (fun _ hk => XS.lstore X2.here hx rfl (hb hby d1_102) rfl  (l' := #[.val (.long q), .second, .val (.long ((q + (719528 : Int64)) - (60 : Int64))), .second, .val (.long (0 : Int64)), .second, .val (.long ((((400 : Int64) * ((q + (719528 : Int64)) - (60 : Int64))) + (591 : Int64)) / (146097 : Int64))), .second, .val (.long (((q + (719528 : Int64)) - (60 : Int64)) - (((((365 : Int64) * ((((400 : Int64) * ((q + (719528 : Int64)) - (60 : Int64))) + (591 : Int64)) / (146097 : Int64))) + (((((400 : Int64) * ((q + (719528 : Int64)) - (60 : Int64))) + (591 : Int64)) / (146097 : Int64)) / (4 : Int64))) - (((((400 : Int64) * ((q + (719528 : Int64)) - (60 : Int64))) + (591 : Int64)) / (146097 : Int64)) / (100 : Int64))) + (((((400 : Int64) * ((q + (719528 : Int64)) - (60 : Int64))) + (591 : Int64)) / (146097 : Int64)) / (400 : Int64))))), .second, .unset, .unset, .unset, .unset]) rfl hk) ?_
    refine own_st (V := T2.setTop (mkF m 106 #[.val (.long q), .second, .val (.long ((q + (719528 : Int64)) - (60 : Int64))), .second, .val (.long (0 : Int64)), .second, .val (.long ((((400 : Int64) * ((q + (719528 : Int64)) - (60 : Int64))) + (591 : Int64)) / (146097 : Int64))), .second, .val (.long (((q + (719528 : Int64)) - (60 : Int64)) - (((((365 : Int64) * ((((400 : Int64) * ((q + (719528 : Int64)) - (60 : Int64))) + (591 : Int64)) / (146097 : Int64))) + (((((400 : Int64) * ((q + (719528 : Int64)) - (60 : Int64))) + (591 : Int64)) / (146097 : Int64)) / (4 : Int64))) - (((((400 : Int64) * ((q + (719528 : Int64)) - (60 : Int64))) + (591 : Int64)) / (146097 : Int64)) / (100 : Int64))) + (((((400 : Int64) * ((q + (719528 : Int64)) - (60 : Int64))) + (591 : Int64)) / (146097 : Int64)) / (400 : Int64))))), .second, .unset, .unset, .unset, .unset] [(.long (((q + (719528 : Int64)) - (60 : Int64)) - (((((365 : Int64) * ((((400 : Int64) * ((q + (719528 : Int64)) - (60 : Int64))) + (591 : Int64)) / (146097 : Int64))) + (((((400 : Int64) * ((q + (719528 : Int64)) - (60 : Int64))) + (591 : Int64)) / (146097 : Int64)) / (4 : Int64))) - (((((400 : Int64) * ((q + (719528 : Int64)) - (60 : Int64))) + (591 : Int64)) / (146097 : Int64)) / (100 : Int64))) + (((((400 : Int64) * ((q + (719528 : Int64)) - (60 : Int64))) + (591 : Int64)) / (146097 : Int64)) / (400 : Int64)))))])) (fun _ hk => XS.lload X2.here hx rfl (hb hby d1_104) rfl  hk) ?_
    refine own_st (V := T2.setTop (mkF m 107 #[.val (.long q), .second, .val (.long ((q + (719528 : Int64)) - (60 : Int64))), .second, .val (.long (0 : Int64)), .second, .val (.long ((((400 : Int64) * ((q + (719528 : Int64)) - (60 : Int64))) + (591 : Int64)) / (146097 : Int64))), .second, .val (.long (((q + (719528 : Int64)) - (60 : Int64)) - (((((365 : Int64) * ((((400 : Int64) * ((q + (719528 : Int64)) - (60 : Int64))) + (591 : Int64)) / (146097 : Int64))) + (((((400 : Int64) * ((q + (719528 : Int64)) - (60 : Int64))) + (591 : Int64)) / (146097 : Int64)) / (4 : Int64))) - (((((400 : Int64) * ((q + (719528 : Int64)) - (60 : Int64))) + (591 : Int64)) / (146097 : Int64)) / (100 : Int64))) + (((((400 : Int64) * ((q + (719528 : Int64)) - (60 : Int64))) + (591 : Int64)) / (146097 : Int64)) / (400 : Int64))))), .second, .unset, .unset, .unset, .unset] [(.long (0 : Int64)), (.long (((q + (719528 : Int64)) - (60 : Int64)) - (((((365 : Int64) * ((((400 : Int64) * ((q + (719528 : Int64)) - (60 : Int64))) + (591 : Int64)) / (146097 : Int64))) + (((((400 : Int64) * ((q + (719528 : Int64)) - (60 : Int64))) + (591 : Int64)) / (146097 : Int64)) / (4 : Int64))) - (((((400 : Int64) * ((q + (719528 : Int64)) - (60 : Int64))) + (591 : Int64)) / (146097 : Int64)) / (100 : Int64))) + (((((400 : Int64) * ((q + (719528 : Int64)) - (60 : Int64))) + (591 : Int64)) / (146097 : Int64)) / (400 : Int64)))))])) (fun _ hk => XS.lconst X2.here hx rfl (hb hby d1_106) hk) ?_
    refine own_st (V := T2.setTop (mkF m 108 #[.val (.long q), .second, .val (.long ((q + (719528 : Int64)) - (60 : Int64))), .second, .val (.long (0 : Int64)), .second, .val (.long ((((400 : Int64) * ((q + (719528 : Int64)) - (60 : Int64))) + (591 : Int64)) / (146097 : Int64))), .second, .val (.long (((q + (719528 : Int64)) - (60 : Int64)) - (((((365 : Int64) * ((((400 : Int64) * ((q + (719528 : Int64)) - (60 : Int64))) + (591 : Int64)) / (146097 : Int64))) + (((((400 : Int64) * ((q + (719528 : Int64)) - (60 : Int64))) + (591 : Int64)) / (146097 : Int64)) / (4 : Int64))) - (((((400 : Int64) * ((q + (719528 : Int64)) - (60 : Int64))) + (591 : Int64)) / (146097 : Int64)) / (100 : Int64))) + (((((400 : Int64) * ((q + (719528 : Int64)) - (60 : Int64))) + (591 : Int64)) / (146097 : Int64)) / (400 : Int64))))), .second, .unset, .unset, .unset, .unset] [(.int (lcmpW (((q + (719528 : Int64)) - (60 : Int64)) - (((((365 : Int64) * ((((400 : Int64) * ((q + (719528 : Int64)) - (60 : Int64))) + (591 : Int64)) / (146097 : Int64))) + (((((400 : Int64) * ((q + (719528 : Int64)) - (60 : Int64))) + (591 : Int64)) / (146097 : Int64)) / (4 : Int64))) - (((((400 : Int64) * ((q + (719528 : Int64)) - (60 : Int64))) + (591 : Int64)) / (146097 : Int64)) / (100 : Int64))) + (((((400 : Int64) * ((q + (719528 : Int64)) - (60 : Int64))) + (591 : Int64)) / (146097 : Int64)) / (400 : Int64)))) (0 : Int64)))])) (fun _ hk => XS.lcmp X2.here hx rfl (hb hby d1_107) rfl hk) ?_
    by_cases hc108 : (lcmpW (((q + (719528 : Int64)) - (60 : Int64)) - (((((365 : Int64) * ((((400 : Int64) * ((q + (719528 : Int64)) - (60 : Int64))) + (591 : Int64)) / (146097 : Int64))) + (((((400 : Int64) * ((q + (719528 : Int64)) - (60 : Int64))) + (591 : Int64)) / (146097 : Int64)) / (4 : Int64))) - (((((400 : Int64) * ((q + (719528 : Int64)) - (60 : Int64))) + (591 : Int64)) / (146097 : Int64)) / (100 : Int64))) + (((((400 : Int64) * ((q + (719528 : Int64)) - (60 : Int64))) + (591 : Int64)) / (146097 : Int64)) / (400 : Int64)))) (0 : Int64)) < (0 : Int32)
    · skip
      refine own_st (V := T2.setTop (mkF m 111 #[.val (.long q), .second, .val (.long ((q + (719528 : Int64)) - (60 : Int64))), .second, .val (.long (0 : Int64)), .second, .val (.long ((((400 : Int64) * ((q + (719528 : Int64)) - (60 : Int64))) + (591 : Int64)) / (146097 : Int64))), .second, .val (.long (((q + (719528 : Int64)) - (60 : Int64)) - (((((365 : Int64) * ((((400 : Int64) * ((q + (719528 : Int64)) - (60 : Int64))) + (591 : Int64)) / (146097 : Int64))) + (((((400 : Int64) * ((q + (719528 : Int64)) - (60 : Int64))) + (591 : Int64)) / (146097 : Int64)) / (4 : Int64))) - (((((400 : Int64) * ((q + (719528 : Int64)) - (60 : Int64))) + (591 : Int64)) / (146097 : Int64)) / (100 : Int64))) + (((((400 : Int64) * ((q + (719528 : Int64)) - (60 : Int64))) + (591 : Int64)) / (146097 : Int64)) / (400 : Int64))))), .second, .unset, .unset, .unset, .unset] [])) (fun _ hk => XS.ifNo X2.here hx rfl (hb hby d1_108) rfl ((if0 _ _).trans (tlt (show (lcmpW (((q + (719528 : Int64)) - (60 : Int64)) - (((((365 : Int64) * ((((400 : Int64) * ((q + (719528 : Int64)) - (60 : Int64))) + (591 : Int64)) / (146097 : Int64))) + (((((400 : Int64) * ((q + (719528 : Int64)) - (60 : Int64))) + (591 : Int64)) / (146097 : Int64)) / (4 : Int64))) - (((((400 : Int64) * ((q + (719528 : Int64)) - (60 : Int64))) + (591 : Int64)) / (146097 : Int64)) / (100 : Int64))) + (((((400 : Int64) * ((q + (719528 : Int64)) - (60 : Int64))) + (591 : Int64)) / (146097 : Int64)) / (400 : Int64)))) (0 : Int64)) < (0 : Int32) from hc108)).2.1) hk) ?_
      refine own_st (V := T2.setTop (mkF m 113 #[.val (.long q), .second, .val (.long ((q + (719528 : Int64)) - (60 : Int64))), .second, .val (.long (0 : Int64)), .second, .val (.long ((((400 : Int64) * ((q + (719528 : Int64)) - (60 : Int64))) + (591 : Int64)) / (146097 : Int64))), .second, .val (.long (((q + (719528 : Int64)) - (60 : Int64)) - (((((365 : Int64) * ((((400 : Int64) * ((q + (719528 : Int64)) - (60 : Int64))) + (591 : Int64)) / (146097 : Int64))) + (((((400 : Int64) * ((q + (719528 : Int64)) - (60 : Int64))) + (591 : Int64)) / (146097 : Int64)) / (4 : Int64))) - (((((400 : Int64) * ((q + (719528 : Int64)) - (60 : Int64))) + (591 : Int64)) / (146097 : Int64)) / (100 : Int64))) + (((((400 : Int64) * ((q + (719528 : Int64)) - (60 : Int64))) + (591 : Int64)) / (146097 : Int64)) / (400 : Int64))))), .second, .unset, .unset, .unset, .unset] [(.long ((((400 : Int64) * ((q + (719528 : Int64)) - (60 : Int64))) + (591 : Int64)) / (146097 : Int64)))])) (fun _ hk => XS.lload X2.here hx rfl (hb hby d1_111) rfl  hk) ?_
      refine own_st (V := T2.setTop (mkF m 114 #[.val (.long q), .second, .val (.long ((q + (719528 : Int64)) - (60 : Int64))), .second, .val (.long (0 : Int64)), .second, .val (.long ((((400 : Int64) * ((q + (719528 : Int64)) - (60 : Int64))) + (591 : Int64)) / (146097 : Int64))), .second, .val (.long (((q + (719528 : Int64)) - (60 : Int64)) - (((((365 : Int64) * ((((400 : Int64) * ((q + (719528 : Int64)) - (60 : Int64))) + (591 : Int64)) / (146097 : Int64))) + (((((400 : Int64) * ((q + (719528 : Int64)) - (60 : Int64))) + (591 : Int64)) / (146097 : Int64)) / (4 : Int64))) - (((((400 : Int64) * ((q + (719528 : Int64)) - (60 : Int64))) + (591 : Int64)) / (146097 : Int64)) / (100 : Int64))) + (((((400 : Int64) * ((q + (719528 : Int64)) - (60 : Int64))) + (591 : Int64)) / (146097 : Int64)) / (400 : Int64))))), .second, .unset, .unset, .unset, .unset] [(.long (1 : Int64)), (.long ((((400 : Int64) * ((q + (719528 : Int64)) - (60 : Int64))) + (591 : Int64)) / (146097 : Int64)))])) (fun _ hk => XS.lconst X2.here hx rfl (hb hby d1_113) hk) ?_
      refine own_st (V := T2.setTop (mkF m 115 #[.val (.long q), .second, .val (.long ((q + (719528 : Int64)) - (60 : Int64))), .second, .val (.long (0 : Int64)), .second, .val (.long ((((400 : Int64) * ((q + (719528 : Int64)) - (60 : Int64))) + (591 : Int64)) / (146097 : Int64))), .second, .val (.long (((q + (719528 : Int64)) - (60 : Int64)) - (((((365 : Int64) * ((((400 : Int64) * ((q + (719528 : Int64)) - (60 : Int64))) + (591 : Int64)) / (146097 : Int64))) + (((((400 : Int64) * ((q + (719528 : Int64)) - (60 : Int64))) + (591 : Int64)) / (146097 : Int64)) / (4 : Int64))) - (((((400 : Int64) * ((q + (719528 : Int64)) - (60 : Int64))) + (591 : Int64)) / (146097 : Int64)) / (100 : Int64))) + (((((400 : Int64) * ((q + (719528 : Int64)) - (60 : Int64))) + (591 : Int64)) / (146097 : Int64)) / (400 : Int64))))), .second, .unset, .unset, .unset, .unset] [(.long (((((400 : Int64) * ((q + (719528 : Int64)) - (60 : Int64))) + (591 : Int64)) / (146097 : Int64)) - (1 : Int64)))])) (fun _ hk => XS.lsub X2.here hx rfl (hb hby d1_114) rfl hk) ?_
      refine own_st (V := T2.setTop (mkF m 117 #[.val (.long q), .second, .val (.long ((q + (719528 : Int64)) - (60 : Int64))), .second, .val (.long (0 : Int64)), .second, .val (.long (((((400 : Int64) * ((q + (719528 : Int64)) - (60 : Int64))) + (591 : Int64)) / (146097 : Int64)) - (1 : Int64))), .second, .val (.long (((q + (719528 : Int64)) - (60 : Int64)) - (((((365 : Int64) * ((((400 : Int64) * ((q + (719528 : Int64)) - (60 : Int64))) + (591 : Int64)) / (146097 : Int64))) + (((((400 : Int64) * ((q + (719528 : Int64)) - (60 : Int64))) + (591 : Int64)) / (146097 : Int64)) / (4 : Int64))) - (((((400 : Int64) * ((q + (719528 : Int64)) - (60 : Int64))) + (591 : Int64)) / (146097 : Int64)) / (100 : Int64))) + (((((400 : Int64) * ((q + (719528 : Int64)) - (60 : Int64))) + (591 : Int64)) / (146097 : Int64)) / (400 : Int64))))), .second, .unset, .unset, .unset, .unset] [])) (fun _ hk => XS.lstore X2.here hx rfl (hb hby d1_115) rfl  (l' := #[.val (.long q), .second, .val (.long ((q + (719528 : Int64)) - (60 : Int64))), .second, .val (.long (0 : Int64)), .second, .val (.long (((((400 : Int64) * ((q + (719528 : Int64)) - (60 : Int64))) + (591 : Int64)) / (146097 : Int64)) - (1 : Int64))), .second, .val (.long (((q + (719528 : Int64)) - (60 : Int64)) - (((((365 : Int64) * ((((400 : Int64) * ((q + (719528 : Int64)) - (60 : Int64))) + (591 : Int64)) / (146097 : Int64))) + (((((400 : Int64) * ((q + (719528 : Int64)) - (60 : Int64))) + (591 : Int64)) / (146097 : Int64)) / (4 : Int64))) - (((((400 : Int64) * ((q + (719528 : Int64)) - (60 : Int64))) + (591 : Int64)) / (146097 : Int64)) / (100 : Int64))) + (((((400 : Int64) * ((q + (719528 : Int64)) - (60 : Int64))) + (591 : Int64)) / (146097 : Int64)) / (400 : Int64))))), .second, .unset, .unset, .unset, .unset]) rfl hk) ?_
      refine own_st (V := T2.setTop (mkF m 118 #[.val (.long q), .second, .val (.long ((q + (719528 : Int64)) - (60 : Int64))), .second, .val (.long (0 : Int64)), .second, .val (.long (((((400 : Int64) * ((q + (719528 : Int64)) - (60 : Int64))) + (591 : Int64)) / (146097 : Int64)) - (1 : Int64))), .second, .val (.long (((q + (719528 : Int64)) - (60 : Int64)) - (((((365 : Int64) * ((((400 : Int64) * ((q + (719528 : Int64)) - (60 : Int64))) + (591 : Int64)) / (146097 : Int64))) + (((((400 : Int64) * ((q + (719528 : Int64)) - (60 : Int64))) + (591 : Int64)) / (146097 : Int64)) / (4 : Int64))) - (((((400 : Int64) * ((q + (719528 : Int64)) - (60 : Int64))) + (591 : Int64)) / (146097 : Int64)) / (100 : Int64))) + (((((400 : Int64) * ((q + (719528 : Int64)) - (60 : Int64))) + (591 : Int64)) / (146097 : Int64)) / (400 : Int64))))), .second, .unset, .unset, .unset, .unset] [(.long ((q + (719528 : Int64)) - (60 : Int64)))])) (fun _ hk => XS.lloadN X2.here hx rfl (hb hby d1_117) rfl  hk) ?_
      refine own_st (V := T2.setTop (mkF m 121 #[.val (.long q), .second, .val (.long ((q + (719528 : Int64)) - (60 : Int64))), .second, .val (.long (0 : Int64)), .second, .val (.long (((((400 : Int64) * ((q + (719528 : Int64)) - (60 : Int64))) + (591 : Int64)) / (146097 : Int64)) - (1 : Int64))), .second, .val (.long (((q + (719528 : Int64)) - (60 : Int64)) - (((((365 : Int64) * ((((400 : Int64) * ((q + (719528 : Int64)) - (60 : Int64))) + (591 : Int64)) / (146097 : Int64))) + (((((400 : Int64) * ((q + (719528 : Int64)) - (60 : Int64))) + (591 : Int64)) / (146097 : Int64)) / (4 : Int64))) - (((((400 : Int64) * ((q + (719528 : Int64)) - (60 : Int64))) + (591 : Int64)) / (146097 : Int64)) / (100 : Int64))) + (((((400 : Int64) * ((q + (719528 : Int64)) - (60 : Int64))) + (591 : Int64)) / (146097 : Int64)) / (400 : Int64))))), .second, .unset, .unset, .unset, .unset] [(.long (365 : Int64)), (.long ((q + (719528 : Int64)) - (60 : Int64)))])) (X2.ldc2Long hx hown (mvT hZ (hw _ (List.mem_of_getElem? (i := 49) rfl))) (g := (mkF m 118 #[.val (.long q), .second, .val (.long ((q + (719528 : Int64)) - (60 : Int64))), .second, .val (.long (0 : Int64)), .second, .val (.long (((((400 : Int64) * ((q + (719528 : Int64)) - (60 : Int64))) + (591 : Int64)) / (146097 : Int64)) - (1 : Int64))), .second, .val (.long (((q + (719528 : Int64)) - (60 : Int64)) - (((((365 : Int64) * ((((400 : Int64) * ((q + (719528 : Int64)) - (60 : Int64))) + (591 : Int64)) / (146097 : Int64))) + (((((400 : Int64) * ((q + (719528 : Int64)) - (60 : Int64))) + (591 : Int64)) / (146097 : Int64)) / (4 : Int64))) - (((((400 : Int64) * ((q + (719528 : Int64)) - (60 : Int64))) + (591 : Int64)) / (146097 : Int64)) / (100 : Int64))) + (((((400 : Int64) * ((q + (719528 : Int64)) - (60 : Int64))) + (591 : Int64)) / (146097 : Int64)) / (400 : Int64))))), .second, .unset, .unset, .unset, .unset] [(.long ((q + (719528 : Int64)) - (60 : Int64)))])) rfl (hb hby d1_118)) ?_
      refine own_st (V := T2.setTop (mkF m 123 #[.val (.long q), .second, .val (.long ((q + (719528 : Int64)) - (60 : Int64))), .second, .val (.long (0 : Int64)), .second, .val (.long (((((400 : Int64) * ((q + (719528 : Int64)) - (60 : Int64))) + (591 : Int64)) / (146097 : Int64)) - (1 : Int64))), .second, .val (.long (((q + (719528 : Int64)) - (60 : Int64)) - (((((365 : Int64) * ((((400 : Int64) * ((q + (719528 : Int64)) - (60 : Int64))) + (591 : Int64)) / (146097 : Int64))) + (((((400 : Int64) * ((q + (719528 : Int64)) - (60 : Int64))) + (591 : Int64)) / (146097 : Int64)) / (4 : Int64))) - (((((400 : Int64) * ((q + (719528 : Int64)) - (60 : Int64))) + (591 : Int64)) / (146097 : Int64)) / (100 : Int64))) + (((((400 : Int64) * ((q + (719528 : Int64)) - (60 : Int64))) + (591 : Int64)) / (146097 : Int64)) / (400 : Int64))))), .second, .unset, .unset, .unset, .unset] [(.long (((((400 : Int64) * ((q + (719528 : Int64)) - (60 : Int64))) + (591 : Int64)) / (146097 : Int64)) - (1 : Int64))), (.long (365 : Int64)), (.long ((q + (719528 : Int64)) - (60 : Int64)))])) (fun _ hk => XS.lload X2.here hx rfl (hb hby d1_121) rfl  hk) ?_
      refine own_st (V := T2.setTop (mkF m 124 #[.val (.long q), .second, .val (.long ((q + (719528 : Int64)) - (60 : Int64))), .second, .val (.long (0 : Int64)), .second, .val (.long (((((400 : Int64) * ((q + (719528 : Int64)) - (60 : Int64))) + (591 : Int64)) / (146097 : Int64)) - (1 : Int64))), .second, .val (.long (((q + (719528 : Int64)) - (60 : Int64)) - (((((365 : Int64) * ((((400 : Int64) * ((q + (719528 : Int64)) - (60 : Int64))) + (591 : Int64)) / (146097 : Int64))) + (((((400 : Int64) * ((q + (719528 : Int64)) - (60 : Int64))) + (591 : Int64)) / (146097 : Int64)) / (4 : Int64))) - (((((400 : Int64) * ((q + (719528 : Int64)) - (60 : Int64))) + (591 : Int64)) / (146097 : Int64)) / (100 : Int64))) + (((((400 : Int64) * ((q + (719528 : Int64)) - (60 : Int64))) + (591 : Int64)) / (146097 : Int64)) / (400 : Int64))))), .second, .unset, .unset, .unset, .unset] [(.long ((365 : Int64) * (((((400 : Int64) * ((q + (719528 : Int64)) - (60 : Int64))) + (591 : Int64)) / (146097 : Int64)) - (1 : Int64)))), (.long ((q + (719528 : Int64)) - (60 : Int64)))])) (fun _ hk => XS.lmul X2.here hx rfl (hb hby d1_123) rfl hk) ?_
      refine own_st (V := T2.setTop (mkF m 126 #[.val (.long q), .second, .val (.long ((q + (719528 : Int64)) - (60 : Int64))), .second, .val (.long (0 : Int64)), .second, .val (.long (((((400 : Int64) * ((q + (719528 : Int64)) - (60 : Int64))) + (591 : Int64)) / (146097 : Int64)) - (1 : Int64))), .second, .val (.long (((q + (719528 : Int64)) - (60 : Int64)) - (((((365 : Int64) * ((((400 : Int64) * ((q + (719528 : Int64)) - (60 : Int64))) + (591 : Int64)) / (146097 : Int64))) + (((((400 : Int64) * ((q + (719528 : Int64)) - (60 : Int64))) + (591 : Int64)) / (146097 : Int64)) / (4 : Int64))) - (((((400 : Int64) * ((q + (719528 : Int64)) - (60 : Int64))) + (591 : Int64)) / (146097 : Int64)) / (100 : Int64))) + (((((400 : Int64) * ((q + (719528 : Int64)) - (60 : Int64))) + (591 : Int64)) / (146097 : Int64)) / (400 : Int64))))), .second, .unset, .unset, .unset, .unset] [(.long (((((400 : Int64) * ((q + (719528 : Int64)) - (60 : Int64))) + (591 : Int64)) / (146097 : Int64)) - (1 : Int64))), (.long ((365 : Int64) * (((((400 : Int64) * ((q + (719528 : Int64)) - (60 : Int64))) + (591 : Int64)) / (146097 : Int64)) - (1 : Int64)))), (.long ((q + (719528 : Int64)) - (60 : Int64)))])) (fun _ hk => XS.lload X2.here hx rfl (hb hby d1_124) rfl  hk) ?_
      refine own_st (V := T2.setTop (mkF m 129 #[.val (.long q), .second, .val (.long ((q + (719528 : Int64)) - (60 : Int64))), .second, .val (.long (0 : Int64)), .second, .val (.long (((((400 : Int64) * ((q + (719528 : Int64)) - (60 : Int64))) + (591 : Int64)) / (146097 : Int64)) - (1 : Int64))), .second, .val (.long (((q + (719528 : Int64)) - (60 : Int64)) - (((((365 : Int64) * ((((400 : Int64) * ((q + (719528 : Int64)) - (60 : Int64))) + (591 : Int64)) / (146097 : Int64))) + (((((400 : Int64) * ((q + (719528 : Int64)) - (60 : Int64))) + (591 : Int64)) / (146097 : Int64)) / (4 : Int64))) - (((((400 : Int64) * ((q + (719528 : Int64)) - (60 : Int64))) + (591 : Int64)) / (146097 : Int64)) / (100 : Int64))) + (((((400 : Int64) * ((q + (719528 : Int64)) - (60 : Int64))) + (591 : Int64)) / (146097 : Int64)) / (400 : Int64))))), .second, .unset, .unset, .unset, .unset] [(.long (4 : Int64)), (.long (((((400 : Int64) * ((q + (719528 : Int64)) - (60 : Int64))) + (591 : Int64)) / (146097 : Int64)) - (1 : Int64))), (.long ((365 : Int64) * (((((400 : Int64) * ((q + (719528 : Int64)) - (60 : Int64))) + (591 : Int64)) / (146097 : Int64)) - (1 : Int64)))), (.long ((q + (719528 : Int64)) - (60 : Int64)))])) (X2.ldc2Long hx hown (mvT hZ (hw _ (List.mem_of_getElem? (i := 50) rfl))) (g := (mkF m 126 #[.val (.long q), .second, .val (.long ((q + (719528 : Int64)) - (60 : Int64))), .second, .val (.long (0 : Int64)), .second, .val (.long (((((400 : Int64) * ((q + (719528 : Int64)) - (60 : Int64))) + (591 : Int64)) / (146097 : Int64)) - (1 : Int64))), .second, .val (.long (((q + (719528 : Int64)) - (60 : Int64)) - (((((365 : Int64) * ((((400 : Int64) * ((q + (719528 : Int64)) - (60 : Int64))) + (591 : Int64)) / (146097 : Int64))) + (((((400 : Int64) * ((q + (719528 : Int64)) - (60 : Int64))) + (591 : Int64)) / (146097 : Int64)) / (4 : Int64))) - (((((400 : Int64) * ((q + (719528 : Int64)) - (60 : Int64))) + (591 : Int64)) / (146097 : Int64)) / (100 : Int64))) + (((((400 : Int64) * ((q + (719528 : Int64)) - (60 : Int64))) + (591 : Int64)) / (146097 : Int64)) / (400 : Int64))))), .second, .unset, .unset, .unset, .unset] [(.long (((((400 : Int64) * ((q + (719528 : Int64)) - (60 : Int64))) + (591 : Int64)) / (146097 : Int64)) - (1 : Int64))), (.long ((365 : Int64) * (((((400 : Int64) * ((q + (719528 : Int64)) - (60 : Int64))) + (591 : Int64)) / (146097 : Int64)) - (1 : Int64)))), (.long ((q + (719528 : Int64)) - (60 : Int64)))])) rfl (hb hby d1_126)) ?_
      refine own_st (V := T2.setTop (mkF m 130 #[.val (.long q), .second, .val (.long ((q + (719528 : Int64)) - (60 : Int64))), .second, .val (.long (0 : Int64)), .second, .val (.long (((((400 : Int64) * ((q + (719528 : Int64)) - (60 : Int64))) + (591 : Int64)) / (146097 : Int64)) - (1 : Int64))), .second, .val (.long (((q + (719528 : Int64)) - (60 : Int64)) - (((((365 : Int64) * ((((400 : Int64) * ((q + (719528 : Int64)) - (60 : Int64))) + (591 : Int64)) / (146097 : Int64))) + (((((400 : Int64) * ((q + (719528 : Int64)) - (60 : Int64))) + (591 : Int64)) / (146097 : Int64)) / (4 : Int64))) - (((((400 : Int64) * ((q + (719528 : Int64)) - (60 : Int64))) + (591 : Int64)) / (146097 : Int64)) / (100 : Int64))) + (((((400 : Int64) * ((q + (719528 : Int64)) - (60 : Int64))) + (591 : Int64)) / (146097 : Int64)) / (400 : Int64))))), .second, .unset, .unset, .unset, .unset] [(.long ((((((400 : Int64) * ((q + (719528 : Int64)) - (60 : Int64))) + (591 : Int64)) / (146097 : Int64)) - (1 : Int64)) / (4 : Int64))), (.long ((365 : Int64) * (((((400 : Int64) * ((q + (719528 : Int64)) - (60 : Int64))) + (591 : Int64)) / (146097 : Int64)) - (1 : Int64)))), (.long ((q + (719528 : Int64)) - (60 : Int64)))])) (fun _ hk => XS.ldiv X2.here hx rfl (hb hby d1_129) rfl (by decide) hk) ?_
      refine own_st (V := T2.setTop (mkF m 131 #[.val (.long q), .second, .val (.long ((q + (719528 : Int64)) - (60 : Int64))), .second, .val (.long (0 : Int64)), .second, .val (.long (((((400 : Int64) * ((q + (719528 : Int64)) - (60 : Int64))) + (591 : Int64)) / (146097 : Int64)) - (1 : Int64))), .second, .val (.long (((q + (719528 : Int64)) - (60 : Int64)) - (((((365 : Int64) * ((((400 : Int64) * ((q + (719528 : Int64)) - (60 : Int64))) + (591 : Int64)) / (146097 : Int64))) + (((((400 : Int64) * ((q + (719528 : Int64)) - (60 : Int64))) + (591 : Int64)) / (146097 : Int64)) / (4 : Int64))) - (((((400 : Int64) * ((q + (719528 : Int64)) - (60 : Int64))) + (591 : Int64)) / (146097 : Int64)) / (100 : Int64))) + (((((400 : Int64) * ((q + (719528 : Int64)) - (60 : Int64))) + (591 : Int64)) / (146097 : Int64)) / (400 : Int64))))), .second, .unset, .unset, .unset, .unset] [(.long (((365 : Int64) * (((((400 : Int64) * ((q + (719528 : Int64)) - (60 : Int64))) + (591 : Int64)) / (146097 : Int64)) - (1 : Int64))) + ((((((400 : Int64) * ((q + (719528 : Int64)) - (60 : Int64))) + (591 : Int64)) / (146097 : Int64)) - (1 : Int64)) / (4 : Int64)))), (.long ((q + (719528 : Int64)) - (60 : Int64)))])) (fun _ hk => XS.ladd X2.here hx rfl (hb hby d1_130) rfl hk) ?_
      refine own_st (V := T2.setTop (mkF m 133 #[.val (.long q), .second, .val (.long ((q + (719528 : Int64)) - (60 : Int64))), .second, .val (.long (0 : Int64)), .second, .val (.long (((((400 : Int64) * ((q + (719528 : Int64)) - (60 : Int64))) + (591 : Int64)) / (146097 : Int64)) - (1 : Int64))), .second, .val (.long (((q + (719528 : Int64)) - (60 : Int64)) - (((((365 : Int64) * ((((400 : Int64) * ((q + (719528 : Int64)) - (60 : Int64))) + (591 : Int64)) / (146097 : Int64))) + (((((400 : Int64) * ((q + (719528 : Int64)) - (60 : Int64))) + (591 : Int64)) / (146097 : Int64)) / (4 : Int64))) - (((((400 : Int64) * ((q + (719528 : Int64)) - (60 : Int64))) + (591 : Int64)) / (146097 : Int64)) / (100 : Int64))) + (((((400 : Int64) * ((q + (719528 : Int64)) - (60 : Int64))) + (591 : Int64)) / (146097 : Int64)) / (400 : Int64))))), .second, .unset, .unset, .unset, .unset] [(.long (((((400 : Int64) * ((q + (719528 : Int64)) - (60 : Int64))) + (591 : Int64)) / (146097 : Int64)) - (1 : Int64))), (.long (((365 : Int64) * (((((400 : Int64) * ((q + (719528 : Int64)) - (60 : Int64))) + (591 : Int64)) / (146097 : Int64)) - (1 : Int64))) + ((((((400 : Int64) * ((q + (719528 : Int64)) - (60 : Int64))) + (591 : Int64)) / (146097 : Int64)) - (1 : Int64)) / (4 : Int64)))), (.long ((q + (719528 : Int64)) - (60 : Int64)))])) (fun _ hk => XS.lload X2.here hx rfl (hb hby d1_131) rfl  hk) ?_
      refine own_st (V := T2.setTop (mkF m 136 #[.val (.long q), .second, .val (.long ((q + (719528 : Int64)) - (60 : Int64))), .second, .val (.long (0 : Int64)), .second, .val (.long (((((400 : Int64) * ((q + (719528 : Int64)) - (60 : Int64))) + (591 : Int64)) / (146097 : Int64)) - (1 : Int64))), .second, .val (.long (((q + (719528 : Int64)) - (60 : Int64)) - (((((365 : Int64) * ((((400 : Int64) * ((q + (719528 : Int64)) - (60 : Int64))) + (591 : Int64)) / (146097 : Int64))) + (((((400 : Int64) * ((q + (719528 : Int64)) - (60 : Int64))) + (591 : Int64)) / (146097 : Int64)) / (4 : Int64))) - (((((400 : Int64) * ((q + (719528 : Int64)) - (60 : Int64))) + (591 : Int64)) / (146097 : Int64)) / (100 : Int64))) + (((((400 : Int64) * ((q + (719528 : Int64)) - (60 : Int64))) + (591 : Int64)) / (146097 : Int64)) / (400 : Int64))))), .second, .unset, .unset, .unset, .unset] [(.long (100 : Int64)), (.long (((((400 : Int64) * ((q + (719528 : Int64)) - (60 : Int64))) + (591 : Int64)) / (146097 : Int64)) - (1 : Int64))), (.long (((365 : Int64) * (((((400 : Int64) * ((q + (719528 : Int64)) - (60 : Int64))) + (591 : Int64)) / (146097 : Int64)) - (1 : Int64))) + ((((((400 : Int64) * ((q + (719528 : Int64)) - (60 : Int64))) + (591 : Int64)) / (146097 : Int64)) - (1 : Int64)) / (4 : Int64)))), (.long ((q + (719528 : Int64)) - (60 : Int64)))])) (X2.ldc2Long hx hown (mvT hZ (hw _ (List.mem_of_getElem? (i := 51) rfl))) (g := (mkF m 133 #[.val (.long q), .second, .val (.long ((q + (719528 : Int64)) - (60 : Int64))), .second, .val (.long (0 : Int64)), .second, .val (.long (((((400 : Int64) * ((q + (719528 : Int64)) - (60 : Int64))) + (591 : Int64)) / (146097 : Int64)) - (1 : Int64))), .second, .val (.long (((q + (719528 : Int64)) - (60 : Int64)) - (((((365 : Int64) * ((((400 : Int64) * ((q + (719528 : Int64)) - (60 : Int64))) + (591 : Int64)) / (146097 : Int64))) + (((((400 : Int64) * ((q + (719528 : Int64)) - (60 : Int64))) + (591 : Int64)) / (146097 : Int64)) / (4 : Int64))) - (((((400 : Int64) * ((q + (719528 : Int64)) - (60 : Int64))) + (591 : Int64)) / (146097 : Int64)) / (100 : Int64))) + (((((400 : Int64) * ((q + (719528 : Int64)) - (60 : Int64))) + (591 : Int64)) / (146097 : Int64)) / (400 : Int64))))), .second, .unset, .unset, .unset, .unset] [(.long (((((400 : Int64) * ((q + (719528 : Int64)) - (60 : Int64))) + (591 : Int64)) / (146097 : Int64)) - (1 : Int64))), (.long (((365 : Int64) * (((((400 : Int64) * ((q + (719528 : Int64)) - (60 : Int64))) + (591 : Int64)) / (146097 : Int64)) - (1 : Int64))) + ((((((400 : Int64) * ((q + (719528 : Int64)) - (60 : Int64))) + (591 : Int64)) / (146097 : Int64)) - (1 : Int64)) / (4 : Int64)))), (.long ((q + (719528 : Int64)) - (60 : Int64)))])) rfl (hb hby d1_133)) ?_
      refine own_st (V := T2.setTop (mkF m 137 #[.val (.long q), .second, .val (.long ((q + (719528 : Int64)) - (60 : Int64))), .second, .val (.long (0 : Int64)), .second, .val (.long (((((400 : Int64) * ((q + (719528 : Int64)) - (60 : Int64))) + (591 : Int64)) / (146097 : Int64)) - (1 : Int64))), .second, .val (.long (((q + (719528 : Int64)) - (60 : Int64)) - (((((365 : Int64) * ((((400 : Int64) * ((q + (719528 : Int64)) - (60 : Int64))) + (591 : Int64)) / (146097 : Int64))) + (((((400 : Int64) * ((q + (719528 : Int64)) - (60 : Int64))) + (591 : Int64)) / (146097 : Int64)) / (4 : Int64))) - (((((400 : Int64) * ((q + (719528 : Int64)) - (60 : Int64))) + (591 : Int64)) / (146097 : Int64)) / (100 : Int64))) + (((((400 : Int64) * ((q + (719528 : Int64)) - (60 : Int64))) + (591 : Int64)) / (146097 : Int64)) / (400 : Int64))))), .second, .unset, .unset, .unset, .unset] [(.long ((((((400 : Int64) * ((q + (719528 : Int64)) - (60 : Int64))) + (591 : Int64)) / (146097 : Int64)) - (1 : Int64)) / (100 : Int64))), (.long (((365 : Int64) * (((((400 : Int64) * ((q + (719528 : Int64)) - (60 : Int64))) + (591 : Int64)) / (146097 : Int64)) - (1 : Int64))) + ((((((400 : Int64) * ((q + (719528 : Int64)) - (60 : Int64))) + (591 : Int64)) / (146097 : Int64)) - (1 : Int64)) / (4 : Int64)))), (.long ((q + (719528 : Int64)) - (60 : Int64)))])) (fun _ hk => XS.ldiv X2.here hx rfl (hb hby d1_136) rfl (by decide) hk) ?_
      refine own_st (V := T2.setTop (mkF m 138 #[.val (.long q), .second, .val (.long ((q + (719528 : Int64)) - (60 : Int64))), .second, .val (.long (0 : Int64)), .second, .val (.long (((((400 : Int64) * ((q + (719528 : Int64)) - (60 : Int64))) + (591 : Int64)) / (146097 : Int64)) - (1 : Int64))), .second, .val (.long (((q + (719528 : Int64)) - (60 : Int64)) - (((((365 : Int64) * ((((400 : Int64) * ((q + (719528 : Int64)) - (60 : Int64))) + (591 : Int64)) / (146097 : Int64))) + (((((400 : Int64) * ((q + (719528 : Int64)) - (60 : Int64))) + (591 : Int64)) / (146097 : Int64)) / (4 : Int64))) - (((((400 : Int64) * ((q + (719528 : Int64)) - (60 : Int64))) + (591 : Int64)) / (146097 : Int64)) / (100 : Int64))) + (((((400 : Int64) * ((q + (719528 : Int64)) - (60 : Int64))) + (591 : Int64)) / (146097 : Int64)) / (400 : Int64))))), .second, .unset, .unset, .unset, .unset] [(.long ((((365 : Int64) * (((((400 : Int64) * ((q + (719528 : Int64)) - (60 : Int64))) + (591 : Int64)) / (146097 : Int64)) - (1 : Int64))) + ((((((400 : Int64) * ((q + (719528 : Int64)) - (60 : Int64))) + (591 : Int64)) / (146097 : Int64)) - (1 : Int64)) / (4 : Int64))) - ((((((400 : Int64) * ((q + (719528 : Int64)) - (60 : Int64))) + (591 : Int64)) / (146097 : Int64)) - (1 : Int64)) / (100 : Int64)))), (.long ((q + (719528 : Int64)) - (60 : Int64)))])) (fun _ hk => XS.lsub X2.here hx rfl (hb hby d1_137) rfl hk) ?_
      refine own_st (V := T2.setTop (mkF m 140 #[.val (.long q), .second, .val (.long ((q + (719528 : Int64)) - (60 : Int64))), .second, .val (.long (0 : Int64)), .second, .val (.long (((((400 : Int64) * ((q + (719528 : Int64)) - (60 : Int64))) + (591 : Int64)) / (146097 : Int64)) - (1 : Int64))), .second, .val (.long (((q + (719528 : Int64)) - (60 : Int64)) - (((((365 : Int64) * ((((400 : Int64) * ((q + (719528 : Int64)) - (60 : Int64))) + (591 : Int64)) / (146097 : Int64))) + (((((400 : Int64) * ((q + (719528 : Int64)) - (60 : Int64))) + (591 : Int64)) / (146097 : Int64)) / (4 : Int64))) - (((((400 : Int64) * ((q + (719528 : Int64)) - (60 : Int64))) + (591 : Int64)) / (146097 : Int64)) / (100 : Int64))) + (((((400 : Int64) * ((q + (719528 : Int64)) - (60 : Int64))) + (591 : Int64)) / (146097 : Int64)) / (400 : Int64))))), .second, .unset, .unset, .unset, .unset] [(.long (((((400 : Int64) * ((q + (719528 : Int64)) - (60 : Int64))) + (591 : Int64)) / (146097 : Int64)) - (1 : Int64))), (.long ((((365 : Int64) * (((((400 : Int64) * ((q + (719528 : Int64)) - (60 : Int64))) + (591 : Int64)) / (146097 : Int64)) - (1 : Int64))) + ((((((400 : Int64) * ((q + (719528 : Int64)) - (60 : Int64))) + (591 : Int64)) / (146097 : Int64)) - (1 : Int64)) / (4 : Int64))) - ((((((400 : Int64) * ((q + (719528 : Int64)) - (60 : Int64))) + (591 : Int64)) / (146097 : Int64)) - (1 : Int64)) / (100 : Int64)))), (.long ((q + (719528 : Int64)) - (60 : Int64)))])) (fun _ hk => XS.lload X2.here hx rfl (hb hby d1_138) rfl  hk) ?_
      refine own_st (V := T2.setTop (mkF m 143 #[.val (.long q), .second, .val (.long ((q + (719528 : Int64)) - (60 : Int64))), .second, .val (.long (0 : Int64)), .second, .val (.long (((((400 : Int64) * ((q + (719528 : Int64)) - (60 : Int64))) + (591 : Int64)) / (146097 : Int64)) - (1 : Int64))), .second, .val (.long (((q + (719528 : Int64)) - (60 : Int64)) - (((((365 : Int64) * ((((400 : Int64) * ((q + (719528 : Int64)) - (60 : Int64))) + (591 : Int64)) / (146097 : Int64))) + (((((400 : Int64) * ((q + (719528 : Int64)) - (60 : Int64))) + (591 : Int64)) / (146097 : Int64)) / (4 : Int64))) - (((((400 : Int64) * ((q + (719528 : Int64)) - (60 : Int64))) + (591 : Int64)) / (146097 : Int64)) / (100 : Int64))) + (((((400 : Int64) * ((q + (719528 : Int64)) - (60 : Int64))) + (591 : Int64)) / (146097 : Int64)) / (400 : Int64))))), .second, .unset, .unset, .unset, .unset] [(.long (400 : Int64)), (.long (((((400 : Int64) * ((q + (719528 : Int64)) - (60 : Int64))) + (591 : Int64)) / (146097 : Int64)) - (1 : Int64))), (.long ((((365 : Int64) * (((((400 : Int64) * ((q + (719528 : Int64)) - (60 : Int64))) + (591 : Int64)) / (146097 : Int64)) - (1 : Int64))) + ((((((400 : Int64) * ((q + (719528 : Int64)) - (60 : Int64))) + (591 : Int64)) / (146097 : Int64)) - (1 : Int64)) / (4 : Int64))) - ((((((400 : Int64) * ((q + (719528 : Int64)) - (60 : Int64))) + (591 : Int64)) / (146097 : Int64)) - (1 : Int64)) / (100 : Int64)))), (.long ((q + (719528 : Int64)) - (60 : Int64)))])) (X2.ldc2Long hx hown (mvT hZ (hw _ (List.mem_of_getElem? (i := 46) rfl))) (g := (mkF m 140 #[.val (.long q), .second, .val (.long ((q + (719528 : Int64)) - (60 : Int64))), .second, .val (.long (0 : Int64)), .second, .val (.long (((((400 : Int64) * ((q + (719528 : Int64)) - (60 : Int64))) + (591 : Int64)) / (146097 : Int64)) - (1 : Int64))), .second, .val (.long (((q + (719528 : Int64)) - (60 : Int64)) - (((((365 : Int64) * ((((400 : Int64) * ((q + (719528 : Int64)) - (60 : Int64))) + (591 : Int64)) / (146097 : Int64))) + (((((400 : Int64) * ((q + (719528 : Int64)) - (60 : Int64))) + (591 : Int64)) / (146097 : Int64)) / (4 : Int64))) - (((((400 : Int64) * ((q + (719528 : Int64)) - (60 : Int64))) + (591 : Int64)) / (146097 : Int64)) / (100 : Int64))) + (((((400 : Int64) * ((q + (719528 : Int64)) - (60 : Int64))) + (591 : Int64)) / (146097 : Int64)) / (400 : Int64))))), .second, .unset, .unset, .unset, .unset] [(.long (((((400 : Int64) * ((q + (719528 : Int64)) - (60 : Int64))) + (591 : Int64)) / (146097 : Int64)) - (1 : Int64))), (.long ((((365 : Int64) * (((((400 : Int64) * ((q + (719528 : Int64)) - (60 : Int64))) + (591 : Int64)) / (146097 : Int64)) - (1 : Int64))) + ((((((400 : Int64) * ((q + (719528 : Int64)) - (60 : Int64))) + (591 : Int64)) / (146097 : Int64)) - (1 : Int64)) / (4 : Int64))) - ((((((400 : Int64) * ((q + (719528 : Int64)) - (60 : Int64))) + (591 : Int64)) / (146097 : Int64)) - (1 : Int64)) / (100 : Int64)))), (.long ((q + (719528 : Int64)) - (60 : Int64)))])) rfl (hb hby d1_140)) ?_
      refine own_st (V := T2.setTop (mkF m 144 #[.val (.long q), .second, .val (.long ((q + (719528 : Int64)) - (60 : Int64))), .second, .val (.long (0 : Int64)), .second, .val (.long (((((400 : Int64) * ((q + (719528 : Int64)) - (60 : Int64))) + (591 : Int64)) / (146097 : Int64)) - (1 : Int64))), .second, .val (.long (((q + (719528 : Int64)) - (60 : Int64)) - (((((365 : Int64) * ((((400 : Int64) * ((q + (719528 : Int64)) - (60 : Int64))) + (591 : Int64)) / (146097 : Int64))) + (((((400 : Int64) * ((q + (719528 : Int64)) - (60 : Int64))) + (591 : Int64)) / (146097 : Int64)) / (4 : Int64))) - (((((400 : Int64) * ((q + (719528 : Int64)) - (60 : Int64))) + (591 : Int64)) / (146097 : Int64)) / (100 : Int64))) + (((((400 : Int64) * ((q + (719528 : Int64)) - (60 : Int64))) + (591 : Int64)) / (146097 : Int64)) / (400 : Int64))))), .second, .unset, .unset, .unset, .unset] [(.long ((((((400 : Int64) * ((q + (719528 : Int64)) - (60 : Int64))) + (591 : Int64)) / (146097 : Int64)) - (1 : Int64)) / (400 : Int64))), (.long ((((365 : Int64) * (((((400 : Int64) * ((q + (719528 : Int64)) - (60 : Int64))) + (591 : Int64)) / (146097 : Int64)) - (1 : Int64))) + ((((((400 : Int64) * ((q + (719528 : Int64)) - (60 : Int64))) + (591 : Int64)) / (146097 : Int64)) - (1 : Int64)) / (4 : Int64))) - ((((((400 : Int64) * ((q + (719528 : Int64)) - (60 : Int64))) + (591 : Int64)) / (146097 : Int64)) - (1 : Int64)) / (100 : Int64)))), (.long ((q + (719528 : Int64)) - (60 : Int64)))])) (fun _ hk => XS.ldiv X2.here hx rfl (hb hby d1_143) rfl (by decide) hk) ?_
      refine own_st (V := T2.setTop (mkF m 145 #[.val (.long q), .second, .val (.long ((q + (719528 : Int64)) - (60 : Int64))), .second, .val (.long (0 : Int64)), .second, .val (.long (((((400 : Int64) * ((q + (719528 : Int64)) - (60 : Int64))) + (591 : Int64)) / (146097 : Int64)) - (1 : Int64))), .second, .val (.long (((q + (719528 : Int64)) - (60 : Int64)) - (((((365 : Int64) * ((((400 : Int64) * ((q + (719528 : Int64)) - (60 : Int64))) + (591 : Int64)) / (146097 : Int64))) + (((((400 : Int64) * ((q + (719528 : Int64)) - (60 : Int64))) + (591 : Int64)) / (146097 : Int64)) / (4 : Int64))) - (((((400 : Int64) * ((q + (719528 : Int64)) - (60 : Int64))) + (591 : Int64)) / (146097 : Int64)) / (100 : Int64))) + (((((400 : Int64) * ((q + (719528 : Int64)) - (60 : Int64))) + (591 : Int64)) / (146097 : Int64)) / (400 : Int64))))), .second, .unset, .unset, .unset, .unset] [(.long (((((365 : Int64) * (((((400 : Int64) * ((q + (719528 : Int64)) - (60 : Int64))) + (591 : Int64)) / (146097 : Int64)) - (1 : Int64))) + ((((((400 : Int64) * ((q + (719528 : Int64)) - (60 : Int64))) + (591 : Int64)) / (146097 : Int64)) - (1 : Int64)) / (4 : Int64))) - ((((((400 : Int64) * ((q + (719528 : Int64)) - (60 : Int64))) + (591 : Int64)) / (146097 : Int64)) - (1 : Int64)) / (100 : Int64))) + ((((((400 : Int64) * ((q + (719528 : Int64)) - (60 : Int64))) + (591 : Int64)) / (146097 : Int64)) - (1 : Int64)) / (400 : Int64)))), (.long ((q + (719528 : Int64)) - (60 : Int64)))])) (fun _ hk => XS.ladd X2.here hx rfl (hb hby d1_144) rfl hk) ?_
      refine own_st (V := T2.setTop (mkF m 146 #[.val (.long q), .second, .val (.long ((q + (719528 : Int64)) - (60 : Int64))), .second, .val (.long (0 : Int64)), .second, .val (.long (((((400 : Int64) * ((q + (719528 : Int64)) - (60 : Int64))) + (591 : Int64)) / (146097 : Int64)) - (1 : Int64))), .second, .val (.long (((q + (719528 : Int64)) - (60 : Int64)) - (((((365 : Int64) * ((((400 : Int64) * ((q + (719528 : Int64)) - (60 : Int64))) + (591 : Int64)) / (146097 : Int64))) + (((((400 : Int64) * ((q + (719528 : Int64)) - (60 : Int64))) + (591 : Int64)) / (146097 : Int64)) / (4 : Int64))) - (((((400 : Int64) * ((q + (719528 : Int64)) - (60 : Int64))) + (591 : Int64)) / (146097 : Int64)) / (100 : Int64))) + (((((400 : Int64) * ((q + (719528 : Int64)) - (60 : Int64))) + (591 : Int64)) / (146097 : Int64)) / (400 : Int64))))), .second, .unset, .unset, .unset, .unset] [(.long (((q + (719528 : Int64)) - (60 : Int64)) - (((((365 : Int64) * (((((400 : Int64) * ((q + (719528 : Int64)) - (60 : Int64))) + (591 : Int64)) / (146097 : Int64)) - (1 : Int64))) + ((((((400 : Int64) * ((q + (719528 : Int64)) - (60 : Int64))) + (591 : Int64)) / (146097 : Int64)) - (1 : Int64)) / (4 : Int64))) - ((((((400 : Int64) * ((q + (719528 : Int64)) - (60 : Int64))) + (591 : Int64)) / (146097 : Int64)) - (1 : Int64)) / (100 : Int64))) + ((((((400 : Int64) * ((q + (719528 : Int64)) - (60 : Int64))) + (591 : Int64)) / (146097 : Int64)) - (1 : Int64)) / (400 : Int64)))))])) (fun _ hk => XS.lsub X2.here hx rfl (hb hby d1_145) rfl hk) ?_
      refine own_st (V := T2.setTop (mkF m 148 #[.val (.long q), .second, .val (.long ((q + (719528 : Int64)) - (60 : Int64))), .second, .val (.long (0 : Int64)), .second, .val (.long (((((400 : Int64) * ((q + (719528 : Int64)) - (60 : Int64))) + (591 : Int64)) / (146097 : Int64)) - (1 : Int64))), .second, .val (.long (((q + (719528 : Int64)) - (60 : Int64)) - (((((365 : Int64) * (((((400 : Int64) * ((q + (719528 : Int64)) - (60 : Int64))) + (591 : Int64)) / (146097 : Int64)) - (1 : Int64))) + ((((((400 : Int64) * ((q + (719528 : Int64)) - (60 : Int64))) + (591 : Int64)) / (146097 : Int64)) - (1 : Int64)) / (4 : Int64))) - ((((((400 : Int64) * ((q + (719528 : Int64)) - (60 : Int64))) + (591 : Int64)) / (146097 : Int64)) - (1 : Int64)) / (100 : Int64))) + ((((((400 : Int64) * ((q + (719528 : Int64)) - (60 : Int64))) + (591 : Int64)) / (146097 : Int64)) - (1 : Int64)) / (400 : Int64))))), .second, .unset, .unset, .unset, .unset] [])) (fun _ hk => XS.lstore X2.here hx rfl (hb hby d1_146) rfl  (l' := #[.val (.long q), .second, .val (.long ((q + (719528 : Int64)) - (60 : Int64))), .second, .val (.long (0 : Int64)), .second, .val (.long (((((400 : Int64) * ((q + (719528 : Int64)) - (60 : Int64))) + (591 : Int64)) / (146097 : Int64)) - (1 : Int64))), .second, .val (.long (((q + (719528 : Int64)) - (60 : Int64)) - (((((365 : Int64) * (((((400 : Int64) * ((q + (719528 : Int64)) - (60 : Int64))) + (591 : Int64)) / (146097 : Int64)) - (1 : Int64))) + ((((((400 : Int64) * ((q + (719528 : Int64)) - (60 : Int64))) + (591 : Int64)) / (146097 : Int64)) - (1 : Int64)) / (4 : Int64))) - ((((((400 : Int64) * ((q + (719528 : Int64)) - (60 : Int64))) + (591 : Int64)) / (146097 : Int64)) - (1 : Int64)) / (100 : Int64))) + ((((((400 : Int64) * ((q + (719528 : Int64)) - (60 : Int64))) + (591 : Int64)) / (146097 : Int64)) - (1 : Int64)) / (400 : Int64))))), .second, .unset, .unset, .unset, .unset]) rfl hk) ?_
      exact J148 _ _ _ _
    · skip
      refine own_st (V := T2.setTop (mkF m 148 #[.val (.long q), .second, .val (.long ((q + (719528 : Int64)) - (60 : Int64))), .second, .val (.long (0 : Int64)), .second, .val (.long ((((400 : Int64) * ((q + (719528 : Int64)) - (60 : Int64))) + (591 : Int64)) / (146097 : Int64))), .second, .val (.long (((q + (719528 : Int64)) - (60 : Int64)) - (((((365 : Int64) * ((((400 : Int64) * ((q + (719528 : Int64)) - (60 : Int64))) + (591 : Int64)) / (146097 : Int64))) + (((((400 : Int64) * ((q + (719528 : Int64)) - (60 : Int64))) + (591 : Int64)) / (146097 : Int64)) / (4 : Int64))) - (((((400 : Int64) * ((q + (719528 : Int64)) - (60 : Int64))) + (591 : Int64)) / (146097 : Int64)) / (100 : Int64))) + (((((400 : Int64) * ((q + (719528 : Int64)) - (60 : Int64))) + (591 : Int64)) / (146097 : Int64)) / (400 : Int64))))), .second, .unset, .unset, .unset, .unset] [])) (fun _ hk => XS.ifYes X2.here hx rfl (pc0 := 108) (pc' := 148) rfl (hb hby d1_108) rfl ((if0 _ _).trans (flt (show ¬ ((lcmpW (((q + (719528 : Int64)) - (60 : Int64)) - (((((365 : Int64) * ((((400 : Int64) * ((q + (719528 : Int64)) - (60 : Int64))) + (591 : Int64)) / (146097 : Int64))) + (((((400 : Int64) * ((q + (719528 : Int64)) - (60 : Int64))) + (591 : Int64)) / (146097 : Int64)) / (4 : Int64))) - (((((400 : Int64) * ((q + (719528 : Int64)) - (60 : Int64))) + (591 : Int64)) / (146097 : Int64)) / (100 : Int64))) + (((((400 : Int64) * ((q + (719528 : Int64)) - (60 : Int64))) + (591 : Int64)) / (146097 : Int64)) / (400 : Int64)))) (0 : Int64)) < (0 : Int32)) from hc108)).2.1) (by decide) (by decide) hk) ?_
      exact J148 _ _ _ _
def own_ST (Z : State) (dc el ea em mr : Addr) (kd ke : ClassId) : Prop := Sta Z Z.heap "java/util/ArrayList" "DEFAULTCAPACITY_EMPTY_ELEMENTDATA" "[Ljava/lang/Object;" (.ref dc) ∧ Arv Z Z.heap dc kd (.object "java/lang/Object") (0 : Int32) [] .null ∧ Sta Z Z.heap "java/util/ImmutableCollections" "EMPTY_LIST" "Ljava/util/ImmutableCollections$ListN;" (.ref el) ∧ Exa Z Z.heap el "java/util/ImmutableCollections$ListN" ∧ Fld Z Z.heap el "java/util/ImmutableCollections$ListN" "elements" "[Ljava/lang/Object;" (.ref ea) ∧ Arv Z Z.heap ea ke (.object "java/lang/Object") (0 : Int32) [] .null ∧ Sta Z Z.heap "java/util/ImmutableCollections" "EMPTY" "Ljava/lang/Object;" (.ref em) ∧ Exa Z Z.heap em "java/lang/Object" ∧ Mir Z "[Ljava/lang/Object;" mr
theorem own_ldcM {p : Program} {l : Launch} {e : Env} {R : Room} {s : State} {m : MethodId} {args : Array Value} {below : List Frame} {meth : Method} {c : Code} {T : State} {locs : List Loc} {cells slots : Nat} {Z : State} {h : Heap} (X : Stand p l e R s m args below meth c T locs cells slots) (hx : p.tables.exec = Jvm.exec) (hZ : Z.Warmed39 s.vm) {a0 : Array Value} {own C : String} {index : Nat} (hown : s.vm.findClass own = some m.cls)
    (w : (Cond.classLink own index C).before a0 Z = true) (eT : T.heap = h) {mr : Addr} (M : Mir Z C mr) {g : JFrame} (hg : g.method = m) (hd : decode c.code g.pc = .ok (.ldc index, 2)) :
    ∃ T', Stand p l e R s m args below meth c T' locs cells slots ∧ T'.heap = h ∧ ∀ target, Steps p.tables e below (T'.setTop { g with pc := g.pc + 2, stack := .ref mr :: g.stack }) target → Steps p.tables e below (T.setTop g) target := by
  obtain ⟨cc, kc, m1, m2, m3, -⟩ := M
  obtain ⟨k', q, ek⟩ := hZ.alike.2.2 _ _ m2
  have m3' : k'.mirror = some mr := by rw [ek]; exact m3
  have m1' : s.vm.findClass C = some cc := by rw [hZ.alike.findClass]; exact m1
  obtain ⟨vm', X', st⟩ := X.ldcMirror hx hown (mvT hZ w) (a := mr) (by simp [Term.eval, m1', q, m3']) hg hd
  exact ⟨_, X', eT, st⟩
theorem own_sto {Z : State} {h : Heap} {a y : Addr} {k : ClassId} {ty : FieldType} {z : Int32} {vs : List Value} {dv : Value} {C : String} (V : Arv Z h a k ty z vs dv) (O : Ovr Z k C) (I : Ins Z h y C true) : Sto Z h a (.ref y) := by
  obtain ⟨c, A, q, -⟩ := V
  exact Sto.ofV A q O I
theorem own_nsRootF {Z : State} {a0 : Array Value} {O K : String} (w : (Jvm.Cond.noSuperclass O).before a0 Z = true) (hK : ∃ t, Z.vm.findClass K = some t) (hn : O ≠ K) : NS Z O K := by
  obtain ⟨c, k, h1, h2, h3, -, -⟩ := Cond.noSuperclass_spec w
  obtain ⟨t, g1⟩ := hK
  have ne := ids_ne h1 g1 hn
  refine ⟨c, t, h1, g1, fun fuel => ?_⟩
  cases fuel with
  | zero => rfl
  | succ f => simp [Vm.isSubclassAux, ne, h2, h3]
theorem own_nsNoF {Z : State} {a0 : Array Value} {C S K : String} {x y : MethodName} (w : (Jvm.Cond.superclass C S).before a0 Z = true) (wk : (Jvm.Cond.selects K x y).before a0 Z = true) (hy : y.cls = K) (ns : NS Z C K) (hn : C ≠ K) : ∃ c t, Z.vm.findClass C = some c ∧ Z.vm.findClass K = some t ∧ Z.vm.assignable c t = false := by
  obtain ⟨c, t, h0, g0, n3⟩ := ns
  obtain ⟨p, k, kp, h1, h2, h3, h4, h5, -, h7⟩ := Cond.superclass_spec h0 w
  obtain ⟨c2, r, m, -, -, q3, -, mk, q5, q6⟩ := Cond.selects_spec wk
  have g1 := findClass_of_methodNamed q3
  rw [hy] at g1
  cases g0.symm.trans g1
  have ne := ids_ne h0 g0 hn
  refine ⟨c, m.cls, h0, g0, ?_⟩
  show Z.vm.assignableAux (255 + 1) c m.cls = false
  cases hkk : mk.kind <;> simp [Vm.assignableAux, ne, h2, q5, h5, hkk, q6, Vm.isSubclass, n3]
theorem own_foundS {Z : State} {a0 : Array Value} {K : String} {x y : MethodName} (wk : (Jvm.Cond.selects K x y).before a0 Z = true) : ∃ t, Z.vm.findClass K = some t := by
  obtain ⟨c2, r, m, h, -⟩ := Cond.selects_spec wk
  exact ⟨c2, h⟩
theorem d11_0 : decode jdk_30_method_1_code 0 = .ok (.aload_n 0, 1) := by decide +kernel
theorem d11_1 : decode jdk_30_method_1_code 1 = .ok (.invokespecial 1, 3) := by decide +kernel
theorem d11_4 : decode jdk_30_method_1_code 4 = .ok (.return_, 1) := by decide +kernel
theorem own_pn_java_lang_Record : plainName "java/lang/Record" = true := by first | (simp [plainName, overriddenIn]; done) | decide +kernel
theorem own_ef_record (m : MethodId) (x0 : Addr) : entryFrame m #[(.ref x0)] 1 = mkF m 0 #[.val (.ref x0)] [] := by first | (simp [entryFrame, mkF, argsToLocals, Value.category]; done) | rfl
def Q_record (Z : State) (oa : Addr) (h0 : Heap) (n0 : Nat) (v : Option Value) (h : Heap) (L : List Loc) : Prop := v = none ∧ Fr n0 L ∧ h = h0
set_option maxRecDepth 65536 in
set_option maxHeartbeats 40000000 in
theorem rm_record (l : Launch) (Z : State) (a0 : Array Value) (hw : ∀ d ∈ tables_1, d.before a0 Z = true) (ws : List Jvm.Cond) (oa : Addr) (h0 : Heap) (n0 : Nat) (Z0 : n0 ≤ h0.size)  :
    MetFree l (⟨"java/lang/Record", "<init>", "()V"⟩ : MethodName) (head1 (Jvm.Cond.code (⟨"java/lang/Record", "<init>", "()V"⟩ : MethodName) jdk_30_method_1_code 1 none :: ws) ({ frames := 1, cells := 0, slots := 0, locals := 12 } : Room)) (fun a U => a = #[(.ref oa)] ∧ Z.Warmed39 U.vm ∧ U.heap = h0) (fun _ _ _ _ _ => True) (fun _ U o U' => ∃ v L, o = .returned v ∧ Q_record Z oa h0 n0 v U'.heap L ∧ FrameEnd U o U' L ({ frames := 1, cells := 0, slots := 0, locals := 12 } : Room).cells ({ frames := 1, cells := 0, slots := 0, locals := 12 } : Room).slots) := by
  refine MetFree.of_bodySF (plainFor_of_name own_pn_java_lang_Record) hisR ?_
  intro p e s m args below meth c s₁ Bd hml0 hP hK
  obtain ⟨rfl, hZ, hh⟩ := hP
  have hx := Bd.exec
  have hby := Bd.bytes
  have hml : c.maxLocals = 1 := hml0
  have hown : s.vm.findClass "java/lang/Record" = some m.cls := findClass_of_methodNamed Bd.named
  have hnm := (name_of_methodNamed Bd.named Bd.method).1
  have X0 : Stand p l e ({ frames := 1, cells := 0, slots := 0, locals := 12 } : Room) s m #[(.ref oa)] below meth c s₁ [] 0 0 := Stand.of_body Bd
  have e0 : s₁.heap = h0 := by rw [← hh, Bd.state]; rfl
  have N0 := Fr.nil n0
  refine own_start (F0 := fun o U' => ∃ v L, o = .returned v ∧ Q_record Z oa h0 n0 v U'.heap L ∧ FrameEnd s o U' L ({ frames := 1, cells := 0, slots := 0, locals := 12 } : Room).cells ({ frames := 1, cells := 0, slots := 0, locals := 12 } : Room).slots) fun F hF => ?_
  rw [own_ef_record m oa]
  refine own_st (V := s₁.setTop (mkF m 1 #[.val (.ref oa)] [(.ref oa)])) (fun _ hk => XS.aloadN X0.here hx rfl (hb hby d11_0) rfl rfl hk) ?_
  obtain ⟨T1, X1, e1, st1⟩ := initO X0 hx hZ hown (hw _ (List.mem_of_getElem? (i := 79) rfl)) (hw _ (List.mem_of_getElem? (i := 59) rfl)) (hw _ (List.mem_of_getElem? (i := 60) rfl)) e0 (g := (mkF m 1 #[.val (.ref oa)] [(.ref oa)])) rfl (by rw [hml]; rfl) rfl (hb hby d11_1) (by decide) (W := 0) (by show 2 * 0 + _ ≤ _; exact Nat.le_of_eq rfl) (by decide)
  refine own_st (V := T1.setTop (mkF m 4 #[.val (.ref oa)] [])) st1 ?_
  exact own_retV X1 hx Bd.notSynchronized Bd.returns (hb hby d11_4) (by decide) (by decide) (fun U hU hE => hF _ _ ⟨_, _, rfl, (by rw [hU, e1]; exact ⟨rfl, N0, rfl⟩), hE⟩)
theorem d15_0 : decode jdk_22_method_1_code 0 = .ok (.aload_n 0, 1) := by decide +kernel
theorem d15_1 : decode jdk_22_method_1_code 1 = .ok (.invokespecial 1, 3) := by decide +kernel
theorem d15_4 : decode jdk_22_method_1_code 4 = .ok (.return_, 1) := by decide +kernel
theorem own_pn_java_util_AbstractCollection : plainName "java/util/AbstractCollection" = true := by first | (simp [plainName, overriddenIn]; done) | decide +kernel
theorem own_ef_acInit (m : MethodId) (x0 : Addr) : entryFrame m #[(.ref x0)] 1 = mkF m 0 #[.val (.ref x0)] [] := by first | (simp [entryFrame, mkF, argsToLocals, Value.category]; done) | rfl
def Q_acInit (Z : State) (oa : Addr) (h0 : Heap) (n0 : Nat) (v : Option Value) (h : Heap) (L : List Loc) : Prop := v = none ∧ Fr n0 L ∧ h = h0
set_option maxRecDepth 65536 in
set_option maxHeartbeats 40000000 in
theorem rm_acInit (l : Launch) (Z : State) (a0 : Array Value) (hw : ∀ d ∈ tables_1, d.before a0 Z = true) (ws : List Jvm.Cond) (oa : Addr) (h0 : Heap) (n0 : Nat) (Z0 : n0 ≤ h0.size)  :
    MetFree l (⟨"java/util/AbstractCollection", "<init>", "()V"⟩ : MethodName) (head1 (Jvm.Cond.code (⟨"java/util/AbstractCollection", "<init>", "()V"⟩ : MethodName) jdk_22_method_1_code 1 none :: ws) ({ frames := 1, cells := 0, slots := 0, locals := 12 } : Room)) (fun a U => a = #[(.ref oa)] ∧ Z.Warmed39 U.vm ∧ U.heap = h0) (fun _ _ _ _ _ => True) (fun _ U o U' => ∃ v L, o = .returned v ∧ Q_acInit Z oa h0 n0 v U'.heap L ∧ FrameEnd U o U' L ({ frames := 1, cells := 0, slots := 0, locals := 12 } : Room).cells ({ frames := 1, cells := 0, slots := 0, locals := 12 } : Room).slots) := by
  refine MetFree.of_bodySF (plainFor_of_name own_pn_java_util_AbstractCollection) hisR ?_
  intro p e s m args below meth c s₁ Bd hml0 hP hK
  obtain ⟨rfl, hZ, hh⟩ := hP
  have hx := Bd.exec
  have hby := Bd.bytes
  have hml : c.maxLocals = 1 := hml0
  have hown : s.vm.findClass "java/util/AbstractCollection" = some m.cls := findClass_of_methodNamed Bd.named
  have hnm := (name_of_methodNamed Bd.named Bd.method).1
  have X0 : Stand p l e ({ frames := 1, cells := 0, slots := 0, locals := 12 } : Room) s m #[(.ref oa)] below meth c s₁ [] 0 0 := Stand.of_body Bd
  have e0 : s₁.heap = h0 := by rw [← hh, Bd.state]; rfl
  have N0 := Fr.nil n0
  refine own_start (F0 := fun o U' => ∃ v L, o = .returned v ∧ Q_acInit Z oa h0 n0 v U'.heap L ∧ FrameEnd s o U' L ({ frames := 1, cells := 0, slots := 0, locals := 12 } : Room).cells ({ frames := 1, cells := 0, slots := 0, locals := 12 } : Room).slots) fun F hF => ?_
  rw [own_ef_acInit m oa]
  refine own_st (V := s₁.setTop (mkF m 1 #[.val (.ref oa)] [(.ref oa)])) (fun _ hk => XS.aloadN X0.here hx rfl (hb hby d15_0) rfl rfl hk) ?_
  obtain ⟨T1, X1, e1, st1⟩ := initO X0 hx hZ hown (hw _ (List.mem_of_getElem? (i := 115) rfl)) (hw _ (List.mem_of_getElem? (i := 59) rfl)) (hw _ (List.mem_of_getElem? (i := 60) rfl)) e0 (g := (mkF m 1 #[.val (.ref oa)] [(.ref oa)])) rfl (by rw [hml]; rfl) rfl (hb hby d15_1) (by decide) (W := 0) (by show 2 * 0 + _ ≤ _; exact Nat.le_of_eq rfl) (by decide)
  refine own_st (V := T1.setTop (mkF m 4 #[.val (.ref oa)] [])) st1 ?_
  exact own_retV X1 hx Bd.notSynchronized Bd.returns (hb hby d15_4) (by decide) (by decide) (fun U hU hE => hF _ _ ⟨_, _, rfl, (by rw [hU, e1]; exact ⟨rfl, N0, rfl⟩), hE⟩)
theorem d35_0 : decode jdk_47_method_1_code 0 = .ok (.aload_n 0, 1) := by decide +kernel
theorem d35_1 : decode jdk_47_method_1_code 1 = .ok (.invokespecial 1, 3) := by decide +kernel
theorem own_pd6 : parseMethodDescriptor "()V" = some ⟨[], none⟩ := by decide +kernel
theorem d35_4 : decode jdk_47_method_1_code 4 = .ok (.return_, 1) := by decide +kernel
theorem own_pn_java_util_ImmutableCollections_AbstractImmutableCollection : plainName "java/util/ImmutableCollections$AbstractImmutableCollection" = true := by first | (simp [plainName, overriddenIn]; done) | decide +kernel
theorem own_ef_aicInit (m : MethodId) (x0 : Addr) : entryFrame m #[(.ref x0)] 1 = mkF m 0 #[.val (.ref x0)] [] := by first | (simp [entryFrame, mkF, argsToLocals, Value.category]; done) | rfl
def Q_aicInit (Z : State) (oa : Addr) (h0 : Heap) (n0 : Nat) (v : Option Value) (h : Heap) (L : List Loc) : Prop := v = none ∧ Fr n0 L ∧ h = h0
set_option maxRecDepth 65536 in
set_option maxHeartbeats 40000000 in
theorem rm_aicInit (l : Launch) (Z : State) (a0 : Array Value) (hw : ∀ d ∈ tables_1, d.before a0 Z = true) (ws : List Jvm.Cond) (oa : Addr) (h0 : Heap) (n0 : Nat) (Z0 : n0 ≤ h0.size)  :
    MetFree l (⟨"java/util/ImmutableCollections$AbstractImmutableCollection", "<init>", "()V"⟩ : MethodName) (head1 (Jvm.Cond.code (⟨"java/util/ImmutableCollections$AbstractImmutableCollection", "<init>", "()V"⟩ : MethodName) jdk_47_method_1_code 1 none :: ws) ({ frames := 2, cells := 0, slots := 0, locals := 24 } : Room)) (fun a U => a = #[(.ref oa)] ∧ Z.Warmed39 U.vm ∧ U.heap = h0) (fun _ _ _ _ _ => True) (fun _ U o U' => ∃ v L, o = .returned v ∧ Q_aicInit Z oa h0 n0 v U'.heap L ∧ FrameEnd U o U' L ({ frames := 2, cells := 0, slots := 0, locals := 24 } : Room).cells ({ frames := 2, cells := 0, slots := 0, locals := 24 } : Room).slots) := by
  refine MetFree.of_bodySF (plainFor_of_name own_pn_java_util_ImmutableCollections_AbstractImmutableCollection) hisR ?_
  intro p e s m args below meth c s₁ Bd hml0 hP hK
  obtain ⟨rfl, hZ, hh⟩ := hP
  have hx := Bd.exec
  have hby := Bd.bytes
  have hml : c.maxLocals = 1 := hml0
  have hown : s.vm.findClass "java/util/ImmutableCollections$AbstractImmutableCollection" = some m.cls := findClass_of_methodNamed Bd.named
  have hnm := (name_of_methodNamed Bd.named Bd.method).1
  have X0 : Stand p l e ({ frames := 2, cells := 0, slots := 0, locals := 24 } : Room) s m #[(.ref oa)] below meth c s₁ [] 0 0 := Stand.of_body Bd
  have e0 : s₁.heap = h0 := by rw [← hh, Bd.state]; rfl
  have N0 := Fr.nil n0
  refine own_start (F0 := fun o U' => ∃ v L, o = .returned v ∧ Q_aicInit Z oa h0 n0 v U'.heap L ∧ FrameEnd s o U' L ({ frames := 2, cells := 0, slots := 0, locals := 24 } : Room).cells ({ frames := 2, cells := 0, slots := 0, locals := 24 } : Room).slots) fun F hF => ?_
  rw [own_ef_aicInit m oa]
  refine own_st (V := s₁.setTop (mkF m 1 #[.val (.ref oa)] [(.ref oa)])) (fun _ hk => XS.aloadN X0.here hx rfl (hb hby d35_0) rfl rfl hk) ?_
  obtain ⟨_, _, ⟨T1, L1, k1, n1⟩, -, X1, ⟨Lc1, hQ1, l1, y1, z1⟩, st1⟩ := X0.specialBack hx (y := (⟨"java/util/AbstractCollection", "<init>", "()V"⟩ : MethodName)) rfl hown (mvT hZ (hw _ (List.mem_of_getElem? (i := 261) rfl))) (mvT hZ (hw _ (List.mem_of_getElem? (i := 110) rfl))) (mvT hZ (hw _ (List.mem_of_getElem? (i := 114) rfl))) (by decide) (backOf (W := 0) (rm_acInit l Z a0 hw [] oa h0 n0 Z0) hZ (hw _ (List.mem_of_getElem? (i := 114) rfl)) (hw _ (List.mem_of_getElem? (i := 113) rfl)) (by decide) (by decide)) (g := (mkF m 1 #[.val (.ref oa)] [(.ref oa)])) rfl (by rw [hml]; rfl) (Steps.refl _) (a := oa) (argsL := []) (rest := []) (lenOf own_pd6 rfl) rfl (by show 2 * 0 + _ ≤ _; exact Nat.le_of_eq rfl) (hb hby d35_1) (fun _ _ => ⟨rfl, e0, (by decide : 0 + 0 ≤ _), (by decide : 0 + 0 ≤ _)⟩)
  dsimp only [Pt.U, Pt.locs, Pt.cells, Pt.slots] at X1 l1 y1 z1 st1 hQ1
  subst l1 y1 z1
  obtain ⟨rfl, N1q, es1⟩ := hQ1
  have N1 := Fr.app N0 N1q
  refine own_tr (V := T1.setTop (mkF m 4 #[.val (.ref oa)] [])) st1 ?_
  exact own_retV X1 hx Bd.notSynchronized Bd.returns (hb hby d35_4) (by decide) (by decide) (fun U hU hE => hF _ _ ⟨_, _, rfl, (by rw [hU, es1]; exact ⟨rfl, N1, rfl⟩), hE⟩)
theorem d34_0 : decode jdk_46_method_1_code 0 = .ok (.aload_n 0, 1) := by decide +kernel
theorem d34_1 : decode jdk_46_method_1_code 1 = .ok (.invokespecial 1, 3) := by decide +kernel
theorem d34_4 : decode jdk_46_method_1_code 4 = .ok (.return_, 1) := by decide +kernel
theorem own_pn_java_util_ImmutableCollections_AbstractImmutableList : plainName "java/util/ImmutableCollections$AbstractImmutableList" = true := by first | (simp [plainName, overriddenIn]; done) | decide +kernel
theorem own_ef_ailInit (m : MethodId) (x0 : Addr) : entryFrame m #[(.ref x0)] 1 = mkF m 0 #[.val (.ref x0)] [] := by first | (simp [entryFrame, mkF, argsToLocals, Value.category]; done) | rfl
def Q_ailInit (Z : State) (oa : Addr) (h0 : Heap) (n0 : Nat) (v : Option Value) (h : Heap) (L : List Loc) : Prop := v = none ∧ Fr n0 L ∧ h = h0
set_option maxRecDepth 65536 in
set_option maxHeartbeats 40000000 in
theorem rm_ailInit (l : Launch) (Z : State) (a0 : Array Value) (hw : ∀ d ∈ tables_1, d.before a0 Z = true) (ws : List Jvm.Cond) (oa : Addr) (h0 : Heap) (n0 : Nat) (Z0 : n0 ≤ h0.size)  :
    MetFree l (⟨"java/util/ImmutableCollections$AbstractImmutableList", "<init>", "()V"⟩ : MethodName) (head1 (Jvm.Cond.code (⟨"java/util/ImmutableCollections$AbstractImmutableList", "<init>", "()V"⟩ : MethodName) jdk_46_method_1_code 1 none :: ws) ({ frames := 3, cells := 0, slots := 0, locals := 36 } : Room)) (fun a U => a = #[(.ref oa)] ∧ Z.Warmed39 U.vm ∧ U.heap = h0) (fun _ _ _ _ _ => True) (fun _ U o U' => ∃ v L, o = .returned v ∧ Q_ailInit Z oa h0 n0 v U'.heap L ∧ FrameEnd U o U' L ({ frames := 3, cells := 0, slots := 0, locals := 36 } : Room).cells ({ frames := 3, cells := 0, slots := 0, locals := 36 } : Room).slots) := by
  refine MetFree.of_bodySF (plainFor_of_name own_pn_java_util_ImmutableCollections_AbstractImmutableList) hisR ?_
  intro p e s m args below meth c s₁ Bd hml0 hP hK
  obtain ⟨rfl, hZ, hh⟩ := hP
  have hx := Bd.exec
  have hby := Bd.bytes
  have hml : c.maxLocals = 1 := hml0
  have hown : s.vm.findClass "java/util/ImmutableCollections$AbstractImmutableList" = some m.cls := findClass_of_methodNamed Bd.named
  have hnm := (name_of_methodNamed Bd.named Bd.method).1
  have X0 : Stand p l e ({ frames := 3, cells := 0, slots := 0, locals := 36 } : Room) s m #[(.ref oa)] below meth c s₁ [] 0 0 := Stand.of_body Bd
  have e0 : s₁.heap = h0 := by rw [← hh, Bd.state]; rfl
  have N0 := Fr.nil n0
  refine own_start (F0 := fun o U' => ∃ v L, o = .returned v ∧ Q_ailInit Z oa h0 n0 v U'.heap L ∧ FrameEnd s o U' L ({ frames := 3, cells := 0, slots := 0, locals := 36 } : Room).cells ({ frames := 3, cells := 0, slots := 0, locals := 36 } : Room).slots) fun F hF => ?_
  rw [own_ef_ailInit m oa]
  refine own_st (V := s₁.setTop (mkF m 1 #[.val (.ref oa)] [(.ref oa)])) (fun _ hk => XS.aloadN X0.here hx rfl (hb hby d34_0) rfl rfl hk) ?_
  obtain ⟨_, _, ⟨T1, L1, k1, n1⟩, -, X1, ⟨Lc1, hQ1, l1, y1, z1⟩, st1⟩ := X0.specialBack hx (y := (⟨"java/util/ImmutableCollections$AbstractImmutableCollection", "<init>", "()V"⟩ : MethodName)) rfl hown (mvT hZ (hw _ (List.mem_of_getElem? (i := 255) rfl))) (mvT hZ (hw _ (List.mem_of_getElem? (i := 256) rfl))) (mvT hZ (hw _ (List.mem_of_getElem? (i := 260) rfl))) (by decide) (backOf (W := 0) (rm_aicInit l Z a0 hw [] oa h0 n0 Z0) hZ (hw _ (List.mem_of_getElem? (i := 260) rfl)) (hw _ (List.mem_of_getElem? (i := 259) rfl)) (by decide) (by decide)) (g := (mkF m 1 #[.val (.ref oa)] [(.ref oa)])) rfl (by rw [hml]; rfl) (Steps.refl _) (a := oa) (argsL := []) (rest := []) (lenOf own_pd6 rfl) rfl (by show 2 * 0 + _ ≤ _; exact Nat.le_of_eq rfl) (hb hby d34_1) (fun _ _ => ⟨rfl, e0, (by decide : 0 + 0 ≤ _), (by decide : 0 + 0 ≤ _)⟩)
  dsimp only [Pt.U, Pt.locs, Pt.cells, Pt.slots] at X1 l1 y1 z1 st1 hQ1
  subst l1 y1 z1
  obtain ⟨rfl, N1q, es1⟩ := hQ1
  have N1 := Fr.app N0 N1q
  refine own_tr (V := T1.setTop (mkF m 4 #[.val (.ref oa)] [])) st1 ?_
  exact own_retV X1 hx Bd.notSynchronized Bd.returns (hb hby d34_4) (by decide) (by decide) (fun U hU hE => hF _ _ ⟨_, _, rfl, (by rw [hU, es1]; exact ⟨rfl, N1, rfl⟩), hE⟩)
theorem d12_0 : decode jdk_31_method_11_code 0 = .ok (.aload_n 0, 1) := by decide +kernel
theorem d12_1 : decode jdk_31_method_11_code 1 = .ok (.ifnonnull 12, 3) := by decide +kernel
theorem d12_13 : decode jdk_31_method_11_code 13 = .ok (.aload_n 0, 1) := by decide +kernel
theorem d12_14 : decode jdk_31_method_11_code 14 = .ok (.areturn, 1) := by decide +kernel
theorem own_pn_java_util_Objects : plainName "java/util/Objects" = true := by first | (simp [plainName, overriddenIn]; done) | decide +kernel
theorem own_ef_nonnull (m : MethodId) (x0 : Addr) (x1 : Addr) : entryFrame m #[(.ref x0), (.ref x1)] 2 = mkF m 0 #[.val (.ref x0), .val (.ref x1)] [] := by first | (simp [entryFrame, mkF, argsToLocals, Value.category]; done) | rfl
def Q_nonnull (Z : State) (a1 a2 : Addr) (h0 : Heap) (n0 : Nat) (v : Option Value) (h : Heap) (L : List Loc) : Prop := v = some (.ref a1) ∧ Fr n0 L ∧ h = h0
set_option maxRecDepth 65536 in
set_option maxHeartbeats 40000000 in
theorem rm_nonnull (l : Launch) (Z : State) (a0 : Array Value) (hw : ∀ d ∈ tables_1, d.before a0 Z = true) (ws : List Jvm.Cond) (a1 a2 : Addr) (h0 : Heap) (n0 : Nat) (Z0 : n0 ≤ h0.size)  :
    MetFree l (⟨"java/util/Objects", "requireNonNull", "(Ljava/lang/Object;Ljava/lang/String;)Ljava/lang/Object;"⟩ : MethodName) (head1 (Jvm.Cond.code (⟨"java/util/Objects", "requireNonNull", "(Ljava/lang/Object;Ljava/lang/String;)Ljava/lang/Object;"⟩ : MethodName) jdk_31_method_11_code 2 (some (.object "java/lang/Object")) :: ws) ({ frames := 0, cells := 0, slots := 0, locals := 0 } : Room)) (fun a U => a = #[(.ref a1), (.ref a2)] ∧ Z.Warmed39 U.vm ∧ U.heap = h0) (fun _ _ _ _ _ => True) (fun _ U o U' => ∃ v L, o = .returned v ∧ Q_nonnull Z a1 a2 h0 n0 v U'.heap L ∧ FrameEnd U o U' L ({ frames := 0, cells := 0, slots := 0, locals := 0 } : Room).cells ({ frames := 0, cells := 0, slots := 0, locals := 0 } : Room).slots) := by
  refine MetFree.of_bodySF (plainFor_of_name own_pn_java_util_Objects) hisR ?_
  intro p e s m args below meth c s₁ Bd hml0 hP hK
  obtain ⟨rfl, hZ, hh⟩ := hP
  have hx := Bd.exec
  have hby := Bd.bytes
  have hml : c.maxLocals = 2 := hml0
  have hown : s.vm.findClass "java/util/Objects" = some m.cls := findClass_of_methodNamed Bd.named
  have hnm := (name_of_methodNamed Bd.named Bd.method).1
  have X0 : Stand p l e ({ frames := 0, cells := 0, slots := 0, locals := 0 } : Room) s m #[(.ref a1), (.ref a2)] below meth c s₁ [] 0 0 := Stand.of_body Bd
  have e0 : s₁.heap = h0 := by rw [← hh, Bd.state]; rfl
  have N0 := Fr.nil n0
  refine own_start (F0 := fun o U' => ∃ v L, o = .returned v ∧ Q_nonnull Z a1 a2 h0 n0 v U'.heap L ∧ FrameEnd s o U' L ({ frames := 0, cells := 0, slots := 0, locals := 0 } : Room).cells ({ frames := 0, cells := 0, slots := 0, locals := 0 } : Room).slots) fun F hF => ?_
  rw [own_ef_nonnull m a1 a2]
  refine own_st (V := s₁.setTop (mkF m 1 #[.val (.ref a1), .val (.ref a2)] [(.ref a1)])) (fun _ hk => XS.aloadN X0.here hx rfl (hb hby d12_0) rfl rfl hk) ?_
  refine own_st (V := s₁.setTop (mkF m 13 #[.val (.ref a1), .val (.ref a2)] [])) (fun _ hk => XS.ifnonnullYes X0.here hx rfl (pc0 := 1) (pc' := 13) rfl (hb hby d12_1) rfl (by decide) (by decide) hk) ?_
  refine own_st (V := s₁.setTop (mkF m 14 #[.val (.ref a1), .val (.ref a2)] [(.ref a1)])) (fun _ hk => XS.aloadN X0.here hx rfl (hb hby d12_13) rfl rfl hk) ?_
  exact own_retA X0 hx Bd.notSynchronized Bd.returns rfl rfl (hb hby d12_14) (by decide) (by decide) (fun U hU hE => hF _ _ ⟨_, _, rfl, (by rw [hU, e0]; exact ⟨rfl, N0, rfl⟩), hE⟩)
theorem d36_0 : decode jdk_31_method_10_code 0 = .ok (.aload_n 0, 1) := by decide +kernel
theorem d36_1 : decode jdk_31_method_10_code 1 = .ok (.ifnonnull 11, 3) := by decide +kernel
theorem d36_12 : decode jdk_31_method_10_code 12 = .ok (.aload_n 0, 1) := by decide +kernel
theorem d36_13 : decode jdk_31_method_10_code 13 = .ok (.areturn, 1) := by decide +kernel
theorem own_ef_nonnull1 (m : MethodId) (x0 : Addr) : entryFrame m #[(.ref x0)] 1 = mkF m 0 #[.val (.ref x0)] [] := by first | (simp [entryFrame, mkF, argsToLocals, Value.category]; done) | rfl
def Q_nonnull1 (Z : State) (a1 : Addr) (h0 : Heap) (n0 : Nat) (v : Option Value) (h : Heap) (L : List Loc) : Prop := v = some (.ref a1) ∧ Fr n0 L ∧ h = h0
set_option maxRecDepth 65536 in
set_option maxHeartbeats 40000000 in
theorem rm_nonnull1 (l : Launch) (Z : State) (a0 : Array Value) (hw : ∀ d ∈ tables_1, d.before a0 Z = true) (ws : List Jvm.Cond) (a1 : Addr) (h0 : Heap) (n0 : Nat) (Z0 : n0 ≤ h0.size)  :
    MetFree l (⟨"java/util/Objects", "requireNonNull", "(Ljava/lang/Object;)Ljava/lang/Object;"⟩ : MethodName) (head1 (Jvm.Cond.code (⟨"java/util/Objects", "requireNonNull", "(Ljava/lang/Object;)Ljava/lang/Object;"⟩ : MethodName) jdk_31_method_10_code 1 (some (.object "java/lang/Object")) :: ws) ({ frames := 0, cells := 0, slots := 0, locals := 0 } : Room)) (fun a U => a = #[(.ref a1)] ∧ Z.Warmed39 U.vm ∧ U.heap = h0) (fun _ _ _ _ _ => True) (fun _ U o U' => ∃ v L, o = .returned v ∧ Q_nonnull1 Z a1 h0 n0 v U'.heap L ∧ FrameEnd U o U' L ({ frames := 0, cells := 0, slots := 0, locals := 0 } : Room).cells ({ frames := 0, cells := 0, slots := 0, locals := 0 } : Room).slots) := by
  refine MetFree.of_bodySF (plainFor_of_name own_pn_java_util_Objects) hisR ?_
  intro p e s m args below meth c s₁ Bd hml0 hP hK
  obtain ⟨rfl, hZ, hh⟩ := hP
  have hx := Bd.exec
  have hby := Bd.bytes
  have hml : c.maxLocals = 1 := hml0
  have hown : s.vm.findClass "java/util/Objects" = some m.cls := findClass_of_methodNamed Bd.named
  have hnm := (name_of_methodNamed Bd.named Bd.method).1
  have X0 : Stand p l e ({ frames := 0, cells := 0, slots := 0, locals := 0 } : Room) s m #[(.ref a1)] below meth c s₁ [] 0 0 := Stand.of_body Bd
  have e0 : s₁.heap = h0 := by rw [← hh, Bd.state]; rfl
  have N0 := Fr.nil n0
  refine own_start (F0 := fun o U' => ∃ v L, o = .returned v ∧ Q_nonnull1 Z a1 h0 n0 v U'.heap L ∧ FrameEnd s o U' L ({ frames := 0, cells := 0, slots := 0, locals := 0 } : Room).cells ({ frames := 0, cells := 0, slots := 0, locals := 0 } : Room).slots) fun F hF => ?_
  rw [own_ef_nonnull1 m a1]
  refine own_st (V := s₁.setTop (mkF m 1 #[.val (.ref a1)] [(.ref a1)])) (fun _ hk => XS.aloadN X0.here hx rfl (hb hby d36_0) rfl rfl hk) ?_
  refine own_st (V := s₁.setTop (mkF m 12 #[.val (.ref a1)] [])) (fun _ hk => XS.ifnonnullYes X0.here hx rfl (pc0 := 1) (pc' := 12) rfl (hb hby d36_1) rfl (by decide) (by decide) hk) ?_
  refine own_st (V := s₁.setTop (mkF m 13 #[.val (.ref a1)] [(.ref a1)])) (fun _ hk => XS.aloadN X0.here hx rfl (hb hby d36_12) rfl rfl hk) ?_
  exact own_retA X0 hx Bd.notSynchronized Bd.returns rfl rfl (hb hby d36_13) (by decide) (by decide) (fun U hU hE => hF _ _ ⟨_, _, rfl, (by rw [hU, e0]; exact ⟨rfl, N0, rfl⟩), hE⟩)
theorem d10_0 : decode prog_80_method_1_code 0 = .ok (.aload_n 0, 1) := by decide +kernel
theorem d10_1 : decode prog_80_method_1_code 1 = .ok (.invokespecial 1, 3) := by decide +kernel
theorem d10_4 : decode prog_80_method_1_code 4 = .ok (.aload_n 1, 1) := by decide +kernel
theorem d10_5 : decode prog_80_method_1_code 5 = .ok (.ldc 7, 2) := by decide +kernel
theorem d10_7 : decode prog_80_method_1_code 7 = .ok (.invokestatic 9, 3) := by decide +kernel
theorem own_pd7 : parseMethodDescriptor "(Ljava/lang/Object;Ljava/lang/String;)Ljava/lang/Object;" = some ⟨[(.object "java/lang/Object"), (.object "java/lang/String")], some (.object "java/lang/Object")⟩ := by decide +kernel
theorem d10_10 : decode prog_80_method_1_code 10 = .ok (.pop, 1) := by decide +kernel
theorem d10_11 : decode prog_80_method_1_code 11 = .ok (.aload_n 2, 1) := by decide +kernel
theorem d10_12 : decode prog_80_method_1_code 12 = .ok (.ldc 15, 2) := by decide +kernel
theorem d10_14 : decode prog_80_method_1_code 14 = .ok (.invokestatic 9, 3) := by decide +kernel
theorem d10_17 : decode prog_80_method_1_code 17 = .ok (.pop, 1) := by decide +kernel
theorem d10_18 : decode prog_80_method_1_code 18 = .ok (.aload_n 0, 1) := by decide +kernel
theorem d10_19 : decode prog_80_method_1_code 19 = .ok (.aload_n 1, 1) := by decide +kernel
theorem d10_20 : decode prog_80_method_1_code 20 = .ok (.putfield 17, 3) := by decide +kernel
theorem d10_23 : decode prog_80_method_1_code 23 = .ok (.aload_n 0, 1) := by decide +kernel
theorem d10_24 : decode prog_80_method_1_code 24 = .ok (.aload_n 2, 1) := by decide +kernel
theorem d10_25 : decode prog_80_method_1_code 25 = .ok (.putfield 22, 3) := by decide +kernel
theorem d10_28 : decode prog_80_method_1_code 28 = .ok (.return_, 1) := by decide +kernel
theorem own_pn_com_example_vestline_vestline_service_SetAside : plainName "com/example/vestline/vestline/service/SetAside" = true := by first | (simp [plainName, overriddenIn]; done) | decide +kernel
theorem own_ef_saInit (m : MethodId) (x0 : Addr) (x1 : Addr) (x2 : Addr) : entryFrame m #[(.ref x0), (.ref x1), (.ref x2)] 3 = mkF m 0 #[.val (.ref x0), .val (.ref x1), .val (.ref x2)] [] := by first | (simp [entryFrame, mkF, argsToLocals, Value.category]; done) | rfl
def Q_saInit (Z : State) (oa r1 r2 : Addr) (u1 u2 : Value) (h0 : Heap) (n0 : Nat) (v : Option Value) (h : Heap) (L : List Loc) : Prop := v = none ∧ Fr n0 L ∧ Keep h0 h [oa] ∧ Fld Z h oa "com/example/vestline/vestline/service/SetAside" "before" "Ljava/time/LocalDate;" (.ref r1)
set_option maxRecDepth 65536 in
set_option maxHeartbeats 40000000 in
theorem rm_saInit (l : Launch) (Z : State) (a0 : Array Value) (hw : ∀ d ∈ tables_1, d.before a0 Z = true) (ws : List Jvm.Cond) (oa r1 r2 : Addr) (u1 u2 : Value) (h0 : Heap) (n0 : Nat) (Z0 : n0 ≤ h0.size) (E_a : Exa Z h0 oa "com/example/vestline/vestline/service/SetAside") (F_b : Fld Z h0 oa "com/example/vestline/vestline/service/SetAside" "before" "Ljava/time/LocalDate;" u1) (F_o : Fld Z h0 oa "com/example/vestline/vestline/service/SetAside" "on" "Ljava/time/LocalDate;" u2) (g_oa : n0 ≤ oa) :
    MetFree l (⟨"com/example/vestline/vestline/service/SetAside", "<init>", "(Ljava/time/LocalDate;Ljava/time/LocalDate;)V"⟩ : MethodName) (head1 (Jvm.Cond.code (⟨"com/example/vestline/vestline/service/SetAside", "<init>", "(Ljava/time/LocalDate;Ljava/time/LocalDate;)V"⟩ : MethodName) prog_80_method_1_code 3 none :: ws) ({ frames := 2, cells := 4, slots := 40, locals := 24 } : Room)) (fun a U => a = #[(.ref oa), (.ref r1), (.ref r2)] ∧ Z.Warmed39 U.vm ∧ U.heap = h0) (fun _ _ _ _ _ => True) (fun _ U o U' => ∃ v L, o = .returned v ∧ Q_saInit Z oa r1 r2 u1 u2 h0 n0 v U'.heap L ∧ ReturnedEndW U o U' L ({ frames := 2, cells := 4, slots := 40, locals := 24 } : Room).cells ({ frames := 2, cells := 4, slots := 40, locals := 24 } : Room).slots) := by
  refine MetFree.of_bodySF (plainFor_of_name own_pn_com_example_vestline_vestline_service_SetAside) hisR ?_
  intro p e s m args below meth c s₁ Bd hml0 hP hK
  obtain ⟨rfl, hZ, hh⟩ := hP
  have hx := Bd.exec
  have hby := Bd.bytes
  have hml : c.maxLocals = 3 := hml0
  have hown : s.vm.findClass "com/example/vestline/vestline/service/SetAside" = some m.cls := findClass_of_methodNamed Bd.named
  have hnm := (name_of_methodNamed Bd.named Bd.method).1
  have X0 : Stand p l e ({ frames := 2, cells := 4, slots := 40, locals := 24 } : Room) (s.setVm s.vm) m #[(.ref oa), (.ref r1), (.ref r2)] below meth c s₁ [] 0 0 := Stand.of_body Bd
  have e0 : s₁.heap = h0 := by rw [← hh, Bd.state]; rfl
  have N0 := Fr.nil n0
  have hZ : Z.Warmed39 (s.setVm s.vm).vm := hZ
  have hown : (s.setVm s.vm).vm.findClass "com/example/vestline/vestline/service/SetAside" = some m.cls := hown
  have hS0 := own_since s h0.size
  have hk0 : h0.size ≤ h0.size := Nat.le_refl _
  refine own_start (F0 := fun o U' => ∃ v L, o = .returned v ∧ Q_saInit Z oa r1 r2 u1 u2 h0 n0 v U'.heap L ∧ ReturnedEndW s o U' L ({ frames := 2, cells := 4, slots := 40, locals := 24 } : Room).cells ({ frames := 2, cells := 4, slots := 40, locals := 24 } : Room).slots) fun F hF => ?_
  rw [own_ef_saInit m oa r1 r2]
  have K := Keep.refl h0 [oa]
  have wS : ∀ a ∈ Bundle.stringAtoms, a.before a0 Z = true := fun d hd => hw d ((by decide +kernel : ∀ d ∈ Bundle.stringAtoms, d ∈ tables_1) d hd)
  refine own_st (V := s₁.setTop (mkF m 1 #[.val (.ref oa), .val (.ref r1), .val (.ref r2)] [(.ref oa)])) (fun _ hk => XS.aloadN X0.here hx rfl (hb hby d10_0) rfl rfl hk) ?_
  obtain ⟨_, _, ⟨T1, L1, k1, n1⟩, -, X1, ⟨Lc1, hQ1, l1, y1, z1⟩, st1⟩ := X0.specialBack hx (y := (⟨"java/lang/Record", "<init>", "()V"⟩ : MethodName)) rfl hown (mvT hZ (hw _ (List.mem_of_getElem? (i := 74) rfl))) (mvT hZ (hw _ (List.mem_of_getElem? (i := 75) rfl))) (mvT hZ (hw _ (List.mem_of_getElem? (i := 78) rfl))) (by decide) (backOf (W := 0) (rm_record l Z a0 hw [] oa h0 n0 Z0) hZ (hw _ (List.mem_of_getElem? (i := 78) rfl)) (hw _ (List.mem_of_getElem? (i := 77) rfl)) (by decide) (by decide)) (g := (mkF m 1 #[.val (.ref oa), .val (.ref r1), .val (.ref r2)] [(.ref oa)])) rfl (by rw [hml]; rfl) (Steps.refl _) (a := oa) (argsL := []) (rest := []) (lenOf own_pd6 rfl) rfl (by show 2 * 0 + _ ≤ _; exact Nat.le_of_eq rfl) (hb hby d10_1) (fun _ _ => ⟨rfl, e0, (by decide : 0 + 0 ≤ _), (by decide : 0 + 0 ≤ _)⟩)
  dsimp only [Pt.U, Pt.locs, Pt.cells, Pt.slots] at X1 l1 y1 z1 st1 hQ1
  subst l1 y1 z1
  obtain ⟨rfl, N1q, es1⟩ := hQ1
  have N1 := Fr.app N0 N1q
  refine own_tr (V := T1.setTop (mkF m 4 #[.val (.ref oa), .val (.ref r1), .val (.ref r2)] [])) st1 ?_
  refine own_st (V := T1.setTop (mkF m 5 #[.val (.ref oa), .val (.ref r1), .val (.ref r2)] [(.ref r1)])) (fun _ hk => XS.aloadN X1.here hx rfl (hb hby d10_4) rfl rfl hk) ?_
  obtain ⟨a2, T2, h2, k2, X2, e2, E2, hS2, hk2, hZ2, hown2, st2⟩ := ldcS X1 hx hZ hown (hw _ (List.mem_of_getElem? (i := 80) rfl)) wS es1 hS0 hk0 (g := (mkF m 5 #[.val (.ref oa), .val (.ref r1), .val (.ref r2)] [(.ref r1)])) rfl (hb hby d10_5) (n := 24) (by decide) (by decide) (by decide) (by decide)
  have E_a := E_a.ext E2
  have F_b := F_b.ext E2
  have F_o := F_o.ext E2
  have K := K.ext E2
  have Z0 : n0 ≤ h2.size := Nat.le_trans Z0 E2.1
  refine own_st (V := T2.setTop (mkF m 7 #[.val (.ref oa), .val (.ref r1), .val (.ref r2)] [(.ref a2), (.ref r1)])) st2 ?_
  obtain ⟨_, _, ⟨T3, L3, k3, n3⟩, -, X3, ⟨Lc3, hQ3, l3, y3, z3⟩, st3⟩ := Jvm.LawKit.callS X2 hx (y := (⟨"java/util/Objects", "requireNonNull", "(Ljava/lang/Object;Ljava/lang/String;)Ljava/lang/Object;"⟩ : MethodName)) hown2 (mvT hZ2 (hw _ (List.mem_of_getElem? (i := 88) rfl))) (mvT hZ2 (hw _ (List.mem_of_getElem? (i := 89) rfl))) (mvT hZ2 (hw _ (List.mem_of_getElem? (i := 90) rfl))) (mvT hZ2 (hw _ (List.mem_of_getElem? (i := 91) rfl))) (by decide) (backOf (W := 0) (rm_nonnull l Z a0 hw [] r1 a2 h2 n0 Z0) hZ2 (hw _ (List.mem_of_getElem? (i := 91) rfl)) (hw _ (List.mem_of_getElem? (i := 90) rfl)) (by decide) (by decide)) (g := (mkF m 7 #[.val (.ref oa), .val (.ref r1), .val (.ref r2)] [(.ref a2), (.ref r1)])) rfl (by rw [hml]; rfl) (argsL := [(.ref r1), (.ref a2)]) (rest := []) (lenOf own_pd7 rfl) rfl (by show 2 * 0 + _ ≤ _; exact Nat.le_of_eq rfl) (hb hby d10_7) (fun _ _ => ⟨rfl, e2, (by decide : 2 + 0 ≤ _), (by decide : 28 + 0 ≤ _)⟩)
  dsimp only [Pt.U, Pt.locs, Pt.cells, Pt.slots] at X3 l3 y3 z3 st3 hQ3
  subst l3 y3 z3
  obtain ⟨rfl, N3q, es3⟩ := hQ3
  have N3 := Fr.app N1 N3q
  refine own_st (V := T3.setTop (mkF m 10 #[.val (.ref oa), .val (.ref r1), .val (.ref r2)] [(.ref r1)])) st3 ?_
  refine own_st (V := T3.setTop (mkF m 11 #[.val (.ref oa), .val (.ref r1), .val (.ref r2)] [])) (fun _ hk => XS.pop X3.here hx rfl (hb hby d10_10) rfl rfl hk) ?_
  refine own_st (V := T3.setTop (mkF m 12 #[.val (.ref oa), .val (.ref r1), .val (.ref r2)] [(.ref r2)])) (fun _ hk => XS.aloadN X3.here hx rfl (hb hby d10_11) rfl rfl hk) ?_
  obtain ⟨a4, T4, h4, k4, X4, e4, E4, hS4, hk4, hZ4, hown4, st4⟩ := ldcS X3 hx hZ2 hown2 (hw _ (List.mem_of_getElem? (i := 92) rfl)) wS es3 hS2 hk2 (g := (mkF m 12 #[.val (.ref oa), .val (.ref r1), .val (.ref r2)] [(.ref r2)])) rfl (hb hby d10_12) (n := 8) (by decide) (by decide) (by decide) (by decide)
  have E_a := E_a.ext E4
  have F_b := F_b.ext E4
  have F_o := F_o.ext E4
  have K := K.ext E4
  have Z0 : n0 ≤ h4.size := Nat.le_trans Z0 E4.1
  refine own_st (V := T4.setTop (mkF m 14 #[.val (.ref oa), .val (.ref r1), .val (.ref r2)] [(.ref a4), (.ref r2)])) st4 ?_
  obtain ⟨_, _, ⟨T5, L5, k5, n5⟩, -, X5, ⟨Lc5, hQ5, l5, y5, z5⟩, st5⟩ := Jvm.LawKit.callS X4 hx (y := (⟨"java/util/Objects", "requireNonNull", "(Ljava/lang/Object;Ljava/lang/String;)Ljava/lang/Object;"⟩ : MethodName)) hown4 (mvT hZ4 (hw _ (List.mem_of_getElem? (i := 88) rfl))) (mvT hZ4 (hw _ (List.mem_of_getElem? (i := 89) rfl))) (mvT hZ4 (hw _ (List.mem_of_getElem? (i := 90) rfl))) (mvT hZ4 (hw _ (List.mem_of_getElem? (i := 91) rfl))) (by decide) (backOf (W := 0) (rm_nonnull l Z a0 hw [] r2 a4 h4 n0 Z0) hZ4 (hw _ (List.mem_of_getElem? (i := 91) rfl)) (hw _ (List.mem_of_getElem? (i := 90) rfl)) (by decide) (by decide)) (g := (mkF m 14 #[.val (.ref oa), .val (.ref r1), .val (.ref r2)] [(.ref a4), (.ref r2)])) rfl (by rw [hml]; rfl) (argsL := [(.ref r2), (.ref a4)]) (rest := []) (lenOf own_pd7 rfl) rfl (by show 2 * 0 + _ ≤ _; exact Nat.le_of_eq rfl) (hb hby d10_14) (fun _ _ => ⟨rfl, e4, (by decide : 4 + 0 ≤ _), (by decide : 40 + 0 ≤ _)⟩)
  dsimp only [Pt.U, Pt.locs, Pt.cells, Pt.slots] at X5 l5 y5 z5 st5 hQ5
  subst l5 y5 z5
  obtain ⟨rfl, N5q, es5⟩ := hQ5
  have N5 := Fr.app N3 N5q
  refine own_st (V := T5.setTop (mkF m 17 #[.val (.ref oa), .val (.ref r1), .val (.ref r2)] [(.ref r2)])) st5 ?_
  refine own_st (V := T5.setTop (mkF m 18 #[.val (.ref oa), .val (.ref r1), .val (.ref r2)] [])) (fun _ hk => XS.pop X5.here hx rfl (hb hby d10_17) rfl rfl hk) ?_
  refine own_st (V := T5.setTop (mkF m 19 #[.val (.ref oa), .val (.ref r1), .val (.ref r2)] [(.ref oa)])) (fun _ hk => XS.aloadN X5.here hx rfl (hb hby d10_18) rfl rfl hk) ?_
  refine own_st (V := T5.setTop (mkF m 20 #[.val (.ref oa), .val (.ref r1), .val (.ref r2)] [(.ref r1), (.ref oa)])) (fun _ hk => XS.aloadN X5.here hx rfl (hb hby d10_19) rfl rfl hk) ?_
  obtain ⟨T6, h6, X6, e6, W6, st6⟩ := putF X5 hx hZ4 hown4 (host := "") (Or.inl (hw _ (List.mem_of_getElem? (i := 93) rfl))) Via.refl es5 F_b E_a (Or.inr ⟨(hw _ (List.mem_of_getElem? (i := 94) rfl)), rfl, hnm⟩) (hw _ (List.mem_of_getElem? (i := 69) rfl)) (ty := (.object "java/time/LocalDate")) (by decide) rfl rfl (g := (mkF m 20 #[.val (.ref oa), .val (.ref r1), .val (.ref r2)] [(.ref r1), (.ref oa)])) rfl rfl (hb hby d10_20)
  have E_a := E_a.wr W6
  have F_o := F_o.other W6 (Or.inr (slot_ne (Or.inr (hw _ (List.mem_of_getElem? (i := 96) rfl))) (Or.inr (hw _ (List.mem_of_getElem? (i := 94) rfl))) (by decide) (t := (.object "java/time/LocalDate")) (t' := (.object "java/time/LocalDate")) (by decide) (by decide)))
  have F_b := F_b.same W6
  have K := K.wr W6 (Or.inl (List.mem_of_getElem? (i := 0) rfl))
  have N6 := Fr.snoc X6 N5 g_oa
  have Z0 : n0 ≤ h6.size := Nat.le_trans Z0 (Keep.of_wr W6).1
  have hk4 := Nat.le_trans hk4 (Keep.of_wr W6).1
  refine own_st (V := T6.setTop (mkF m 23 #[.val (.ref oa), .val (.ref r1), .val (.ref r2)] [])) st6 ?_
  refine own_st (V := T6.setTop (mkF m 24 #[.val (.ref oa), .val (.ref r1), .val (.ref r2)] [(.ref oa)])) (fun _ hk => XS.aloadN X6.here hx rfl (hb hby d10_23) rfl rfl hk) ?_
  refine own_st (V := T6.setTop (mkF m 25 #[.val (.ref oa), .val (.ref r1), .val (.ref r2)] [(.ref r2), (.ref oa)])) (fun _ hk => XS.aloadN X6.here hx rfl (hb hby d10_24) rfl rfl hk) ?_
  obtain ⟨T7, h7, X7, e7, W7, st7⟩ := putF X6 hx hZ4 hown4 (host := "") (Or.inl (hw _ (List.mem_of_getElem? (i := 95) rfl))) Via.refl e6 F_o E_a (Or.inr ⟨(hw _ (List.mem_of_getElem? (i := 96) rfl)), rfl, hnm⟩) (hw _ (List.mem_of_getElem? (i := 69) rfl)) (ty := (.object "java/time/LocalDate")) (by decide) rfl rfl (g := (mkF m 25 #[.val (.ref oa), .val (.ref r1), .val (.ref r2)] [(.ref r2), (.ref oa)])) rfl rfl (hb hby d10_25)
  have E_a := E_a.wr W7
  have F_b := F_b.other W7 (Or.inr (slot_ne (Or.inr (hw _ (List.mem_of_getElem? (i := 94) rfl))) (Or.inr (hw _ (List.mem_of_getElem? (i := 96) rfl))) (by decide) (t := (.object "java/time/LocalDate")) (t' := (.object "java/time/LocalDate")) (by decide) (by decide)))
  have F_o := F_o.same W7
  have K := K.wr W7 (Or.inl (List.mem_of_getElem? (i := 0) rfl))
  have N7 := Fr.snoc X7 N6 g_oa
  have Z0 : n0 ≤ h7.size := Nat.le_trans Z0 (Keep.of_wr W7).1
  have hk4 := Nat.le_trans hk4 (Keep.of_wr W7).1
  refine own_st (V := T7.setTop (mkF m 28 #[.val (.ref oa), .val (.ref r1), .val (.ref r2)] [])) st7 ?_
  exact own_retVW X7 hS4 (by rw [e7]; exact hk4) hx Bd.notSynchronized Bd.returns (hb hby d10_28) (by decide) (by decide) (fun U hU hV hE => hF _ _ ⟨_, _, rfl, (by rw [hU, e7]; exact ⟨rfl, N7, K, F_b⟩), hE⟩)
theorem d14_0 : decode jdk_39_method_1_code 0 = .ok (.aload_n 0, 1) := by decide +kernel
theorem d14_1 : decode jdk_39_method_1_code 1 = .ok (.invokespecial 1, 3) := by decide +kernel
theorem d14_4 : decode jdk_39_method_1_code 4 = .ok (.aload_n 0, 1) := by decide +kernel
theorem d14_5 : decode jdk_39_method_1_code 5 = .ok (.iconst 0, 1) := by decide +kernel
theorem d14_6 : decode jdk_39_method_1_code 6 = .ok (.putfield 7, 3) := by decide +kernel
theorem d14_9 : decode jdk_39_method_1_code 9 = .ok (.return_, 1) := by decide +kernel
theorem own_pn_java_util_AbstractList : plainName "java/util/AbstractList" = true := by first | (simp [plainName, overriddenIn]; done) | decide +kernel
theorem own_ef_absInit (m : MethodId) (x0 : Addr) : entryFrame m #[(.ref x0)] 1 = mkF m 0 #[.val (.ref x0)] [] := by first | (simp [entryFrame, mkF, argsToLocals, Value.category]; done) | rfl
def Q_absInit (Z : State) (oa : Addr) (u1 u2 u3 : Value) (h0 : Heap) (n0 : Nat) (v : Option Value) (h : Heap) (L : List Loc) : Prop := v = none ∧ Fr n0 L ∧ Keep h0 h [oa] ∧ Fld Z h oa "java/util/AbstractList" "modCount" "I" (.int 0) ∧ Fld Z h oa "java/util/ArrayList" "elementData" "[Ljava/lang/Object;" u2 ∧ Fld Z h oa "java/util/ArrayList" "size" "I" u3
set_option maxRecDepth 65536 in
set_option maxHeartbeats 40000000 in
theorem rm_absInit (l : Launch) (Z : State) (a0 : Array Value) (hw : ∀ d ∈ tables_1, d.before a0 Z = true) (ws : List Jvm.Cond) (oa : Addr) (u1 u2 u3 : Value) (h0 : Heap) (n0 : Nat) (Z0 : n0 ≤ h0.size) (E_a : Exa Z h0 oa "java/util/ArrayList") (F_m : Fld Z h0 oa "java/util/AbstractList" "modCount" "I" u1) (F_e : Fld Z h0 oa "java/util/ArrayList" "elementData" "[Ljava/lang/Object;" u2) (F_z : Fld Z h0 oa "java/util/ArrayList" "size" "I" u3) (g_oa : n0 ≤ oa) :
    MetFree l (⟨"java/util/AbstractList", "<init>", "()V"⟩ : MethodName) (head1 (Jvm.Cond.code (⟨"java/util/AbstractList", "<init>", "()V"⟩ : MethodName) jdk_39_method_1_code 1 none :: ws) ({ frames := 2, cells := 0, slots := 0, locals := 24 } : Room)) (fun a U => a = #[(.ref oa)] ∧ Z.Warmed39 U.vm ∧ U.heap = h0) (fun _ _ _ _ _ => True) (fun _ U o U' => ∃ v L, o = .returned v ∧ Q_absInit Z oa u1 u2 u3 h0 n0 v U'.heap L ∧ FrameEnd U o U' L ({ frames := 2, cells := 0, slots := 0, locals := 24 } : Room).cells ({ frames := 2, cells := 0, slots := 0, locals := 24 } : Room).slots) := by
  refine MetFree.of_bodySF (plainFor_of_name own_pn_java_util_AbstractList) hisR ?_
  intro p e s m args below meth c s₁ Bd hml0 hP hK
  obtain ⟨rfl, hZ, hh⟩ := hP
  have hx := Bd.exec
  have hby := Bd.bytes
  have hml : c.maxLocals = 1 := hml0
  have hown : s.vm.findClass "java/util/AbstractList" = some m.cls := findClass_of_methodNamed Bd.named
  have hnm := (name_of_methodNamed Bd.named Bd.method).1
  have X0 : Stand p l e ({ frames := 2, cells := 0, slots := 0, locals := 24 } : Room) s m #[(.ref oa)] below meth c s₁ [] 0 0 := Stand.of_body Bd
  have e0 : s₁.heap = h0 := by rw [← hh, Bd.state]; rfl
  have N0 := Fr.nil n0
  refine own_start (F0 := fun o U' => ∃ v L, o = .returned v ∧ Q_absInit Z oa u1 u2 u3 h0 n0 v U'.heap L ∧ FrameEnd s o U' L ({ frames := 2, cells := 0, slots := 0, locals := 24 } : Room).cells ({ frames := 2, cells := 0, slots := 0, locals := 24 } : Room).slots) fun F hF => ?_
  rw [own_ef_absInit m oa]
  have K := Keep.refl h0 [oa]
  refine own_st (V := s₁.setTop (mkF m 1 #[.val (.ref oa)] [(.ref oa)])) (fun _ hk => XS.aloadN X0.here hx rfl (hb hby d14_0) rfl rfl hk) ?_
  obtain ⟨_, _, ⟨T1, L1, k1, n1⟩, -, X1, ⟨Lc1, hQ1, l1, y1, z1⟩, st1⟩ := X0.specialBack hx (y := (⟨"java/util/AbstractCollection", "<init>", "()V"⟩ : MethodName)) rfl hown (mvT hZ (hw _ (List.mem_of_getElem? (i := 109) rfl))) (mvT hZ (hw _ (List.mem_of_getElem? (i := 110) rfl))) (mvT hZ (hw _ (List.mem_of_getElem? (i := 114) rfl))) (by decide) (backOf (W := 0) (rm_acInit l Z a0 hw [] oa h0 n0 Z0) hZ (hw _ (List.mem_of_getElem? (i := 114) rfl)) (hw _ (List.mem_of_getElem? (i := 113) rfl)) (by decide) (by decide)) (g := (mkF m 1 #[.val (.ref oa)] [(.ref oa)])) rfl (by rw [hml]; rfl) (Steps.refl _) (a := oa) (argsL := []) (rest := []) (lenOf own_pd6 rfl) rfl (by show 2 * 0 + _ ≤ _; exact Nat.le_of_eq rfl) (hb hby d14_1) (fun _ _ => ⟨rfl, e0, (by decide : 0 + 0 ≤ _), (by decide : 0 + 0 ≤ _)⟩)
  dsimp only [Pt.U, Pt.locs, Pt.cells, Pt.slots] at X1 l1 y1 z1 st1 hQ1
  subst l1 y1 z1
  obtain ⟨rfl, N1q, es1⟩ := hQ1
  have N1 := Fr.app N0 N1q
  refine own_tr (V := T1.setTop (mkF m 4 #[.val (.ref oa)] [])) st1 ?_
  refine own_st (V := T1.setTop (mkF m 5 #[.val (.ref oa)] [(.ref oa)])) (fun _ hk => XS.aloadN X1.here hx rfl (hb hby d14_4) rfl rfl hk) ?_
  refine own_st (V := T1.setTop (mkF m 6 #[.val (.ref oa)] [(.int (0 : Int32)), (.ref oa)])) (fun _ hk => XS.iconst X1.here hx rfl (hb hby d14_5) hk) ?_
  obtain ⟨T2, h2, X2, e2, W2, st2⟩ := putF X1 hx hZ hown (host := "") (Or.inl (hw _ (List.mem_of_getElem? (i := 116) rfl))) Via.refl es1 F_m E_a (Or.inl (hw _ (List.mem_of_getElem? (i := 117) rfl))) (hw _ (List.mem_of_getElem? (i := 98) rfl)) (ty := .int) (by decide) rfl rfl (g := (mkF m 6 #[.val (.ref oa)] [(.int (0 : Int32)), (.ref oa)])) rfl rfl (hb hby d14_6)
  have E_a := E_a.wr W2
  have F_e := F_e.other W2 (Or.inr (slot_ne (Or.inl (hw _ (List.mem_of_getElem? (i := 120) rfl))) (Or.inl (hw _ (List.mem_of_getElem? (i := 117) rfl))) (by decide) (t := (.array (.object "java/lang/Object"))) (t' := .int) (by decide) (by decide)))
  have F_z := F_z.other W2 (Or.inr (slot_ne (Or.inl (hw _ (List.mem_of_getElem? (i := 152) rfl))) (Or.inl (hw _ (List.mem_of_getElem? (i := 117) rfl))) (by decide) (t := .int) (t' := .int) (by decide) (by decide)))
  have F_m := F_m.same W2
  have K := K.wr W2 (Or.inl (List.mem_of_getElem? (i := 0) rfl))
  have N2 := Fr.snoc X2 N1 g_oa
  have Z0 : n0 ≤ h2.size := Nat.le_trans Z0 (Keep.of_wr W2).1
  refine own_st (V := T2.setTop (mkF m 9 #[.val (.ref oa)] [])) st2 ?_
  exact own_retV X2 hx Bd.notSynchronized Bd.returns (hb hby d14_9) (by decide) (by decide) (fun U hU hE => hF _ _ ⟨_, _, rfl, (by rw [hU, e2]; exact ⟨rfl, N2, K, F_m, F_e, F_z⟩), hE⟩)
theorem d13_0 : decode jdk_38_method_2_code 0 = .ok (.aload_n 0, 1) := by decide +kernel
theorem d13_1 : decode jdk_38_method_2_code 1 = .ok (.invokespecial 1, 3) := by decide +kernel
theorem d13_4 : decode jdk_38_method_2_code 4 = .ok (.aload_n 0, 1) := by decide +kernel
theorem d13_5 : decode jdk_38_method_2_code 5 = .ok (.getstatic 39, 3) := by decide +kernel
theorem d13_8 : decode jdk_38_method_2_code 8 = .ok (.putfield 9, 3) := by decide +kernel
theorem d13_11 : decode jdk_38_method_2_code 11 = .ok (.return_, 1) := by decide +kernel
theorem own_pn_java_util_ArrayList : plainName "java/util/ArrayList" = true := by first | (simp [plainName, overriddenIn]; done) | decide +kernel
theorem own_ef_alInit (m : MethodId) (x0 : Addr) : entryFrame m #[(.ref x0)] 1 = mkF m 0 #[.val (.ref x0)] [] := by first | (simp [entryFrame, mkF, argsToLocals, Value.category]; done) | rfl
def Q_alInit (Z : State) (oa : Addr) (u1 u2 u3 : Value) (dc el ea em mr : Addr) (kd ke : ClassId) (h0 : Heap) (n0 : Nat) (v : Option Value) (h : Heap) (L : List Loc) : Prop := v = none ∧ Fr n0 L ∧ Keep h0 h [oa] ∧ Fld Z h oa "java/util/AbstractList" "modCount" "I" (.int 0) ∧ Fld Z h oa "java/util/ArrayList" "elementData" "[Ljava/lang/Object;" (.ref dc) ∧ Fld Z h oa "java/util/ArrayList" "size" "I" u3
set_option maxRecDepth 65536 in
set_option maxHeartbeats 40000000 in
theorem rm_alInit (l : Launch) (Z : State) (a0 : Array Value) (hw : ∀ d ∈ tables_1, d.before a0 Z = true) (ws : List Jvm.Cond) (oa : Addr) (u1 u2 u3 : Value) (dc el ea em mr : Addr) (kd ke : ClassId) (h0 : Heap) (n0 : Nat) (Z0 : n0 ≤ h0.size) (O : Old Z n0 h0) (hT : own_ST Z dc el ea em mr kd ke) (E_a : Exa Z h0 oa "java/util/ArrayList") (F_m : Fld Z h0 oa "java/util/AbstractList" "modCount" "I" u1) (F_e : Fld Z h0 oa "java/util/ArrayList" "elementData" "[Ljava/lang/Object;" u2) (F_z : Fld Z h0 oa "java/util/ArrayList" "size" "I" u3) (g_oa : n0 ≤ oa) :
    MetFree l (⟨"java/util/ArrayList", "<init>", "()V"⟩ : MethodName) (head1 (Jvm.Cond.code (⟨"java/util/ArrayList", "<init>", "()V"⟩ : MethodName) jdk_38_method_2_code 1 none :: ws) ({ frames := 3, cells := 0, slots := 0, locals := 36 } : Room)) (fun a U => a = #[(.ref oa)] ∧ Z.Warmed39 U.vm ∧ U.heap = h0) (fun _ _ _ _ _ => True) (fun _ U o U' => ∃ v L, o = .returned v ∧ Q_alInit Z oa u1 u2 u3 dc el ea em mr kd ke h0 n0 v U'.heap L ∧ FrameEnd U o U' L ({ frames := 3, cells := 0, slots := 0, locals := 36 } : Room).cells ({ frames := 3, cells := 0, slots := 0, locals := 36 } : Room).slots) := by
  refine MetFree.of_bodySF (plainFor_of_name own_pn_java_util_ArrayList) hisR ?_
  intro p e s m args below meth c s₁ Bd hml0 hP hK
  obtain ⟨rfl, hZ, hh⟩ := hP
  have hx := Bd.exec
  have hby := Bd.bytes
  have hml : c.maxLocals = 1 := hml0
  have hown : s.vm.findClass "java/util/ArrayList" = some m.cls := findClass_of_methodNamed Bd.named
  have hnm := (name_of_methodNamed Bd.named Bd.method).1
  have X0 : Stand p l e ({ frames := 3, cells := 0, slots := 0, locals := 36 } : Room) s m #[(.ref oa)] below meth c s₁ [] 0 0 := Stand.of_body Bd
  have e0 : s₁.heap = h0 := by rw [← hh, Bd.state]; rfl
  have N0 := Fr.nil n0
  refine own_start (F0 := fun o U' => ∃ v L, o = .returned v ∧ Q_alInit Z oa u1 u2 u3 dc el ea em mr kd ke h0 n0 v U'.heap L ∧ FrameEnd s o U' L ({ frames := 3, cells := 0, slots := 0, locals := 36 } : Room).cells ({ frames := 3, cells := 0, slots := 0, locals := 36 } : Room).slots) fun F hF => ?_
  rw [own_ef_alInit m oa]
  have K := Keep.refl h0 [oa]
  obtain ⟨Sdc, Vdc, Sel, Eel, Fel, Vea, Sem, Eem, hM⟩ := hT
  refine own_st (V := s₁.setTop (mkF m 1 #[.val (.ref oa)] [(.ref oa)])) (fun _ hk => XS.aloadN X0.here hx rfl (hb hby d13_0) rfl rfl hk) ?_
  obtain ⟨_, _, ⟨T1, L1, k1, n1⟩, -, X1, ⟨Lc1, hQ1, l1, y1, z1⟩, st1⟩ := X0.specialBack hx (y := (⟨"java/util/AbstractList", "<init>", "()V"⟩ : MethodName)) rfl hown (mvT hZ (hw _ (List.mem_of_getElem? (i := 103) rfl))) (mvT hZ (hw _ (List.mem_of_getElem? (i := 104) rfl))) (mvT hZ (hw _ (List.mem_of_getElem? (i := 108) rfl))) (by decide) (backOf (W := 0) (rm_absInit l Z a0 hw [] oa u1 u2 u3 h0 n0 Z0 E_a F_m F_e F_z g_oa) hZ (hw _ (List.mem_of_getElem? (i := 108) rfl)) (hw _ (List.mem_of_getElem? (i := 107) rfl)) (by decide) (by decide)) (g := (mkF m 1 #[.val (.ref oa)] [(.ref oa)])) rfl (by rw [hml]; rfl) (Steps.refl _) (a := oa) (argsL := []) (rest := []) (lenOf own_pd6 rfl) rfl (by show 2 * 0 + _ ≤ _; exact Nat.le_of_eq rfl) (hb hby d13_1) (fun _ _ => ⟨rfl, e0, (by decide : 0 + 0 ≤ _), (by decide : 0 + 0 ≤ _)⟩)
  dsimp only [Pt.U, Pt.locs, Pt.cells, Pt.slots] at X1 l1 y1 z1 st1 hQ1
  subst l1 y1 z1
  obtain ⟨rfl, N1q, Kc, G_m, G_e, G_z⟩ := hQ1
  have N1 := Fr.app N0 N1q
  refine own_tr (V := T1.setTop (mkF m 4 #[.val (.ref oa)] [])) st1 ?_
  have E_a := E_a.keep Kc
  have Z0 : n0 ≤ T1.heap.size := Nat.le_trans Z0 Kc.1
  have O := O.keep Kc (allS g_oa all0)
  have K := K.trans Kc (allS (Or.inl (List.mem_of_getElem? (i := 0) rfl)) all0)
  refine own_st (V := T1.setTop (mkF m 5 #[.val (.ref oa)] [(.ref oa)])) (fun _ hk => XS.aloadN X1.here hx rfl (hb hby d13_4) rfl rfl hk) ?_
  obtain ⟨T2, X2, e2, st2⟩ := getS2 X1 hx hZ hown (host := "") (Or.inl (hw _ (List.mem_of_getElem? (i := 118) rfl))) Via.refl rfl (Sdc.ext O.2) (g := (mkF m 5 #[.val (.ref oa)] [(.ref oa)])) rfl (hb hby d13_5)
  refine own_st (V := T2.setTop (mkF m 8 #[.val (.ref oa)] [(.ref dc), (.ref oa)])) st2 ?_
  obtain ⟨T3, h3, X3, e3, W3, st3⟩ := putF X2 hx hZ hown (host := "") (Or.inl (hw _ (List.mem_of_getElem? (i := 119) rfl))) Via.refl e2 G_e E_a (Or.inl (hw _ (List.mem_of_getElem? (i := 120) rfl))) (hw _ (List.mem_of_getElem? (i := 98) rfl)) (ty := (.array (.object "java/lang/Object"))) (by decide) rfl rfl (g := (mkF m 8 #[.val (.ref oa)] [(.ref dc), (.ref oa)])) rfl rfl (hb hby d13_8)
  have E_a := E_a.wr W3
  have G_m := G_m.other W3 (Or.inr (slot_ne (Or.inl (hw _ (List.mem_of_getElem? (i := 117) rfl))) (Or.inl (hw _ (List.mem_of_getElem? (i := 120) rfl))) (by decide) (t := .int) (t' := (.array (.object "java/lang/Object"))) (by decide) (by decide)))
  have G_z := G_z.other W3 (Or.inr (slot_ne (Or.inl (hw _ (List.mem_of_getElem? (i := 152) rfl))) (Or.inl (hw _ (List.mem_of_getElem? (i := 120) rfl))) (by decide) (t := .int) (t' := (.array (.object "java/lang/Object"))) (by decide) (by decide)))
  have G_e := G_e.same W3
  have K := K.wr W3 (Or.inl (List.mem_of_getElem? (i := 0) rfl))
  have N3 := Fr.snoc X3 N1 g_oa
  have O := O.wr W3 g_oa
  have Z0 : n0 ≤ h3.size := Nat.le_trans Z0 (Keep.of_wr W3).1
  refine own_st (V := T3.setTop (mkF m 11 #[.val (.ref oa)] [])) st3 ?_
  exact own_retV X3 hx Bd.notSynchronized Bd.returns (hb hby d13_11) (by decide) (by decide) (fun U hU hE => hF _ _ ⟨_, _, rfl, (by rw [hU, e3]; exact ⟨rfl, N3, K, G_m, G_e, G_z⟩), hE⟩)
theorem d27_0 : decode jdk_29_method_65_code 0 = .ok (.iload_n 0, 1) := by decide +kernel
theorem d27_1 : decode jdk_29_method_65_code 1 = .ok (.iload_n 1, 1) := by decide +kernel
theorem d27_2 : decode jdk_29_method_65_code 2 = .ok (.if_icmp .lt 7, 3) := by decide +kernel
theorem d27_5 : decode jdk_29_method_65_code 5 = .ok (.iload_n 0, 1) := by decide +kernel
theorem d27_6 : decode jdk_29_method_65_code 6 = .ok (.goto 4, 3) := by decide +kernel
theorem d27_10 : decode jdk_29_method_65_code 10 = .ok (.ireturn, 1) := by decide +kernel
theorem own_ef_max (m : MethodId) (x0 : Int32) (x1 : Int32) : entryFrame m #[(.int x0), (.int x1)] 2 = mkF m 0 #[.val (.int x0), .val (.int x1)] [] := by first | (simp [entryFrame, mkF, argsToLocals, Value.category]; done) | rfl
def Q_max (Z : State) (x1 x2 : Int32) (h0 : Heap) (n0 : Nat) (v : Option Value) (h : Heap) (L : List Loc) : Prop := v = some (.int x1) ∧ Fr n0 L ∧ h = h0
set_option maxRecDepth 65536 in
set_option maxHeartbeats 40000000 in
theorem rm_max (l : Launch) (Z : State) (a0 : Array Value) (hw : ∀ d ∈ tables_1, d.before a0 Z = true) (ws : List Jvm.Cond) (x1 x2 : Int32) (h0 : Heap) (n0 : Nat) (Z0 : n0 ≤ h0.size) (hq : ¬ x1 < x2) :
    MetFree l (⟨"java/lang/Math", "max", "(II)I"⟩ : MethodName) (head1 (Jvm.Cond.code (⟨"java/lang/Math", "max", "(II)I"⟩ : MethodName) jdk_29_method_65_code 2 (some .int) :: ws) ({ frames := 0, cells := 0, slots := 0, locals := 0 } : Room)) (fun a U => a = #[(.int x1), (.int x2)] ∧ Z.Warmed39 U.vm ∧ U.heap = h0) (fun _ _ _ _ _ => True) (fun _ U o U' => ∃ v L, o = .returned v ∧ Q_max Z x1 x2 h0 n0 v U'.heap L ∧ FrameEnd U o U' L ({ frames := 0, cells := 0, slots := 0, locals := 0 } : Room).cells ({ frames := 0, cells := 0, slots := 0, locals := 0 } : Room).slots) := by
  refine MetFree.of_bodySF (Jvm.Free.JP.mathPlain rfl (by decide +kernel)) hisR ?_
  intro p e s m args below meth c s₁ Bd hml0 hP hK
  obtain ⟨rfl, hZ, hh⟩ := hP
  have hx := Bd.exec
  have hby := Bd.bytes
  have hml : c.maxLocals = 2 := hml0
  have hown : s.vm.findClass "java/lang/Math" = some m.cls := findClass_of_methodNamed Bd.named
  have hnm := (name_of_methodNamed Bd.named Bd.method).1
  have X0 : Stand p l e ({ frames := 0, cells := 0, slots := 0, locals := 0 } : Room) s m #[(.int x1), (.int x2)] below meth c s₁ [] 0 0 := Stand.of_body Bd
  have e0 : s₁.heap = h0 := by rw [← hh, Bd.state]; rfl
  have N0 := Fr.nil n0
  refine own_start (F0 := fun o U' => ∃ v L, o = .returned v ∧ Q_max Z x1 x2 h0 n0 v U'.heap L ∧ FrameEnd s o U' L ({ frames := 0, cells := 0, slots := 0, locals := 0 } : Room).cells ({ frames := 0, cells := 0, slots := 0, locals := 0 } : Room).slots) fun F hF => ?_
  rw [own_ef_max m x1 x2]
  refine own_st (V := s₁.setTop (mkF m 1 #[.val (.int x1), .val (.int x2)] [(.int x1)])) (fun _ hk => XS.iloadN X0.here hx rfl (hb hby d27_0) rfl  hk) ?_
  refine own_st (V := s₁.setTop (mkF m 2 #[.val (.int x1), .val (.int x2)] [(.int x2), (.int x1)])) (fun _ hk => XS.iloadN X0.here hx rfl (hb hby d27_1) rfl  hk) ?_
  refine own_st (V := s₁.setTop (mkF m 5 #[.val (.int x1), .val (.int x2)] [])) (fun _ hk => XS.icmpNo X0.here hx rfl (hb hby d27_2) rfl (flt (show ¬ (x1 < x2) from hq)).1 hk) ?_
  refine own_st (V := s₁.setTop (mkF m 6 #[.val (.int x1), .val (.int x2)] [(.int x1)])) (fun _ hk => XS.iloadN X0.here hx rfl (hb hby d27_5) rfl  hk) ?_
  refine own_st (V := s₁.setTop (mkF m 10 #[.val (.int x1), .val (.int x2)] [(.int x1)])) (fun _ hk => XS.goto X0.here hx rfl (pc0 := 6) (pc' := 10) rfl (hb hby d27_6) (by decide) (by decide) hk) ?_
  exact own_retI X0 hx Bd.notSynchronized Bd.returns (hb hby d27_10) (by decide) (by decide) (fun U hU hE => hF _ _ ⟨_, _, rfl, (by rw [hU, e0]; exact ⟨rfl, N0, rfl⟩), hE⟩)
theorem d31_0 : decode jdk_29_method_69_code 0 = .ok (.iload_n 0, 1) := by decide +kernel
theorem d31_1 : decode jdk_29_method_69_code 1 = .ok (.iload_n 1, 1) := by decide +kernel
theorem d31_2 : decode jdk_29_method_69_code 2 = .ok (.if_icmp .gt 7, 3) := by decide +kernel
theorem d31_9 : decode jdk_29_method_69_code 9 = .ok (.iload_n 1, 1) := by decide +kernel
theorem d31_10 : decode jdk_29_method_69_code 10 = .ok (.ireturn, 1) := by decide +kernel
theorem own_ef_min (m : MethodId) (x0 : Int32) (x1 : Int32) : entryFrame m #[(.int x0), (.int x1)] 2 = mkF m 0 #[.val (.int x0), .val (.int x1)] [] := by first | (simp [entryFrame, mkF, argsToLocals, Value.category]; done) | rfl
def Q_min (Z : State) (x1 x2 : Int32) (h0 : Heap) (n0 : Nat) (v : Option Value) (h : Heap) (L : List Loc) : Prop := v = some (.int x2) ∧ Fr n0 L ∧ h = h0
set_option maxRecDepth 65536 in
set_option maxHeartbeats 40000000 in
theorem rm_min (l : Launch) (Z : State) (a0 : Array Value) (hw : ∀ d ∈ tables_1, d.before a0 Z = true) (ws : List Jvm.Cond) (x1 x2 : Int32) (h0 : Heap) (n0 : Nat) (Z0 : n0 ≤ h0.size) (hq : x2 < x1) :
    MetFree l (⟨"java/lang/Math", "min", "(II)I"⟩ : MethodName) (head1 (Jvm.Cond.code (⟨"java/lang/Math", "min", "(II)I"⟩ : MethodName) jdk_29_method_69_code 2 (some .int) :: ws) ({ frames := 0, cells := 0, slots := 0, locals := 0 } : Room)) (fun a U => a = #[(.int x1), (.int x2)] ∧ Z.Warmed39 U.vm ∧ U.heap = h0) (fun _ _ _ _ _ => True) (fun _ U o U' => ∃ v L, o = .returned v ∧ Q_min Z x1 x2 h0 n0 v U'.heap L ∧ FrameEnd U o U' L ({ frames := 0, cells := 0, slots := 0, locals := 0 } : Room).cells ({ frames := 0, cells := 0, slots := 0, locals := 0 } : Room).slots) := by
  refine MetFree.of_bodySF (Jvm.Free.JP.mathPlain rfl (by decide +kernel)) hisR ?_
  intro p e s m args below meth c s₁ Bd hml0 hP hK
  obtain ⟨rfl, hZ, hh⟩ := hP
  have hx := Bd.exec
  have hby := Bd.bytes
  have hml : c.maxLocals = 2 := hml0
  have hown : s.vm.findClass "java/lang/Math" = some m.cls := findClass_of_methodNamed Bd.named
  have hnm := (name_of_methodNamed Bd.named Bd.method).1
  have X0 : Stand p l e ({ frames := 0, cells := 0, slots := 0, locals := 0 } : Room) s m #[(.int x1), (.int x2)] below meth c s₁ [] 0 0 := Stand.of_body Bd
  have e0 : s₁.heap = h0 := by rw [← hh, Bd.state]; rfl
  have N0 := Fr.nil n0
  refine own_start (F0 := fun o U' => ∃ v L, o = .returned v ∧ Q_min Z x1 x2 h0 n0 v U'.heap L ∧ FrameEnd s o U' L ({ frames := 0, cells := 0, slots := 0, locals := 0 } : Room).cells ({ frames := 0, cells := 0, slots := 0, locals := 0 } : Room).slots) fun F hF => ?_
  rw [own_ef_min m x1 x2]
  refine own_st (V := s₁.setTop (mkF m 1 #[.val (.int x1), .val (.int x2)] [(.int x1)])) (fun _ hk => XS.iloadN X0.here hx rfl (hb hby d31_0) rfl  hk) ?_
  refine own_st (V := s₁.setTop (mkF m 2 #[.val (.int x1), .val (.int x2)] [(.int x2), (.int x1)])) (fun _ hk => XS.iloadN X0.here hx rfl (hb hby d31_1) rfl  hk) ?_
  refine own_st (V := s₁.setTop (mkF m 9 #[.val (.int x1), .val (.int x2)] [])) (fun _ hk => XS.icmpYes X0.here hx rfl (pc0 := 2) (pc' := 9) rfl (hb hby d31_2) rfl (tlt (show x2 < x1 from hq)).2.2.1 (by decide) (by decide) hk) ?_
  refine own_st (V := s₁.setTop (mkF m 10 #[.val (.int x1), .val (.int x2)] [(.int x2)])) (fun _ hk => XS.iloadN X0.here hx rfl (hb hby d31_9) rfl  hk) ?_
  exact own_retI X0 hx Bd.notSynchronized Bd.returns (hb hby d31_10) (by decide) (by decide) (fun U hU hE => hF _ _ ⟨_, _, rfl, (by rw [hU, e0]; exact ⟨rfl, N0, rfl⟩), hE⟩)
theorem d26_0 : decode jdk_38_method_6_code 0 = .ok (.aload_n 0, 1) := by decide +kernel
theorem d26_1 : decode jdk_38_method_6_code 1 = .ok (.getfield 9, 3) := by decide +kernel
theorem d26_4 : decode jdk_38_method_6_code 4 = .ok (.arraylength, 1) := by decide +kernel
theorem d26_5 : decode jdk_38_method_6_code 5 = .ok (.istore_n 2, 1) := by decide +kernel
theorem d26_6 : decode jdk_38_method_6_code 6 = .ok (.iload_n 2, 1) := by decide +kernel
theorem d26_7 : decode jdk_38_method_6_code 7 = .ok (.ifCond .gt 13, 3) := by decide +kernel
theorem d26_10 : decode jdk_38_method_6_code 10 = .ok (.aload_n 0, 1) := by decide +kernel
theorem d26_11 : decode jdk_38_method_6_code 11 = .ok (.getfield 9, 3) := by decide +kernel
theorem d26_14 : decode jdk_38_method_6_code 14 = .ok (.getstatic 39, 3) := by decide +kernel
theorem d26_17 : decode jdk_38_method_6_code 17 = .ok (.if_acmp .eq 28, 3) := by decide +kernel
theorem d26_45 : decode jdk_38_method_6_code 45 = .ok (.aload_n 0, 1) := by decide +kernel
theorem d26_46 : decode jdk_38_method_6_code 46 = .ok (.bipush 10, 2) := by decide +kernel
theorem d26_48 : decode jdk_38_method_6_code 48 = .ok (.iload_n 1, 1) := by decide +kernel
theorem d26_49 : decode jdk_38_method_6_code 49 = .ok (.invokestatic 79, 3) := by decide +kernel
theorem own_pd8 : parseMethodDescriptor "(II)I" = some ⟨[.int, .int], some .int⟩ := by decide +kernel
theorem d26_52 : decode jdk_38_method_6_code 52 = .ok (.anewarray 7, 3) := by decide +kernel
theorem d26_55 : decode jdk_38_method_6_code 55 = .ok (.dup_x1, 1) := by decide +kernel
theorem d26_56 : decode jdk_38_method_6_code 56 = .ok (.putfield 9, 3) := by decide +kernel
theorem d26_59 : decode jdk_38_method_6_code 59 = .ok (.areturn, 1) := by decide +kernel
theorem own_ef_growI (m : MethodId) (x0 : Addr) (x1 : Int32) : entryFrame m #[(.ref x0), (.int x1)] 4 = mkF m 0 #[.val (.ref x0), .val (.int x1), .unset, .unset] [] := by first | (simp [entryFrame, mkF, argsToLocals, Value.category]; done) | rfl
def Q_growI (Z : State) (oa : Addr) (q mc : Int32) (dc el ea em mr : Addr) (kd ke : ClassId) (h0 : Heap) (n0 : Nat) (v : Option Value) (h : Heap) (L : List Loc) : Prop := ∃ (t : Addr) (kt : ClassId), v = some (.ref t) ∧ Fr n0 L ∧ Keep h0 h [oa] ∧ h0.size ≤ t ∧ Fld Z h oa "java/util/AbstractList" "modCount" "I" (.int mc) ∧ Fld Z h oa "java/util/ArrayList" "elementData" "[Ljava/lang/Object;" (.ref t) ∧ Fld Z h oa "java/util/ArrayList" "size" "I" (.int 0) ∧ Arv Z h t kt (.object "java/lang/Object") (10 : Int32) [.null, .null, .null, .null, .null, .null, .null, .null, .null, .null] .null ∧ Ovr Z kt "java/lang/Object" ∧ Exa Z h t "[Ljava/lang/Object;"
set_option maxRecDepth 65536 in
set_option maxHeartbeats 40000000 in
theorem rm_growI (l : Launch) (Z : State) (a0 : Array Value) (hw : ∀ d ∈ tables_1, d.before a0 Z = true) (ws : List Jvm.Cond) (oa : Addr) (q mc : Int32) (dc el ea em mr : Addr) (kd ke : ClassId) (h0 : Heap) (n0 : Nat) (Z0 : n0 ≤ h0.size) (O : Old Z n0 h0) (hT : own_ST Z dc el ea em mr kd ke) (E_a : Exa Z h0 oa "java/util/ArrayList") (F_m : Fld Z h0 oa "java/util/AbstractList" "modCount" "I" (.int mc)) (F_e : Fld Z h0 oa "java/util/ArrayList" "elementData" "[Ljava/lang/Object;" (.ref dc)) (F_z : Fld Z h0 oa "java/util/ArrayList" "size" "I" (.int 0)) (g_oa : n0 ≤ oa) (hq : ¬ (10 : Int32) < q) :
    MetFree l (⟨"java/util/ArrayList", "grow", "(I)[Ljava/lang/Object;"⟩ : MethodName) (head1 (Jvm.Cond.code (⟨"java/util/ArrayList", "grow", "(I)[Ljava/lang/Object;"⟩ : MethodName) jdk_38_method_6_code 4 (some (.array (.object "java/lang/Object"))) :: ws) ({ frames := 1, cells := 1, slots := 10, locals := 14 } : Room)) (fun a U => a = #[(.ref oa), (.int q)] ∧ Z.Warmed39 U.vm ∧ U.heap = h0) (fun _ _ _ _ _ => True) (fun _ U o U' => ∃ v L, o = .returned v ∧ Q_growI Z oa q mc dc el ea em mr kd ke h0 n0 v U'.heap L ∧ FrameEnd U o U' L ({ frames := 1, cells := 1, slots := 10, locals := 14 } : Room).cells ({ frames := 1, cells := 1, slots := 10, locals := 14 } : Room).slots) := by
  refine MetFree.of_bodySF (plainFor_of_name own_pn_java_util_ArrayList) hisR ?_
  intro p e s m args below meth c s₁ Bd hml0 hP hK
  obtain ⟨rfl, hZ, hh⟩ := hP
  have hx := Bd.exec
  have hby := Bd.bytes
  have hml : c.maxLocals = 4 := hml0
  have hown : s.vm.findClass "java/util/ArrayList" = some m.cls := findClass_of_methodNamed Bd.named
  have hnm := (name_of_methodNamed Bd.named Bd.method).1
  have X0 : Stand p l e ({ frames := 1, cells := 1, slots := 10, locals := 14 } : Room) s m #[(.ref oa), (.int q)] below meth c s₁ [] 0 0 := Stand.of_body Bd
  have e0 : s₁.heap = h0 := by rw [← hh, Bd.state]; rfl
  have N0 := Fr.nil n0
  refine own_start (F0 := fun o U' => ∃ v L, o = .returned v ∧ Q_growI Z oa q mc dc el ea em mr kd ke h0 n0 v U'.heap L ∧ FrameEnd s o U' L ({ frames := 1, cells := 1, slots := 10, locals := 14 } : Room).cells ({ frames := 1, cells := 1, slots := 10, locals := 14 } : Room).slots) fun F hF => ?_
  rw [own_ef_growI m oa q]
  have K := Keep.refl h0 [oa]
  obtain ⟨Sdc, Vdc, Sel, Eel, Fel, Vea, Sem, Eem, hM⟩ := hT
  refine own_st (V := s₁.setTop (mkF m 1 #[.val (.ref oa), .val (.int q), .unset, .unset] [(.ref oa)])) (fun _ hk => XS.aloadN X0.here hx rfl (hb hby d26_0) rfl rfl hk) ?_
  obtain ⟨T1, X1, e1, st1⟩ := getF X0 hx hZ hown (host := "") (Or.inl (hw _ (List.mem_of_getElem? (i := 119) rfl))) Via.refl e0 F_e (g := (mkF m 1 #[.val (.ref oa), .val (.int q), .unset, .unset] [(.ref oa)])) rfl rfl (hb hby d26_1)
  refine own_st (V := T1.setTop (mkF m 4 #[.val (.ref oa), .val (.int q), .unset, .unset] [(.ref dc)])) st1 ?_
  have V_dc := Vdc.ext O.2
  obtain ⟨cl2, Ar2, -, Sz2, Ng2, -, -⟩ := (id V_dc : _)
  refine own_st (V := T1.setTop (mkF m 5 #[.val (.ref oa), .val (.int q), .unset, .unset] [(.int cl2.slots.size.toInt32)])) (X1.arraylength hx (by rw [e1]; exact Ar2.1) (State.isArrayOf_alike hZ.alike Ar2.2.1) (g := (mkF m 4 #[.val (.ref oa), .val (.int q), .unset, .unset] [(.ref dc)])) rfl rfl (hb hby d26_4)) ?_
  rw [len_of Sz2 Ng2]
  refine own_st (V := T1.setTop (mkF m 6 #[.val (.ref oa), .val (.int q), .val (.int (0 : Int32)), .unset] [])) (fun _ hk => XS.istoreN X1.here hx rfl (hb hby d26_5) rfl  (l' := #[.val (.ref oa), .val (.int q), .val (.int (0 : Int32)), .unset]) rfl hk) ?_
  refine own_st (V := T1.setTop (mkF m 7 #[.val (.ref oa), .val (.int q), .val (.int (0 : Int32)), .unset] [(.int (0 : Int32))])) (fun _ hk => XS.iloadN X1.here hx rfl (hb hby d26_6) rfl  hk) ?_
  refine own_st (V := T1.setTop (mkF m 10 #[.val (.ref oa), .val (.int q), .val (.int (0 : Int32)), .unset] [])) (fun _ hk => XS.ifNo X1.here hx rfl (hb hby d26_7) rfl ((if0 _ _).trans (flt (show ¬ ((0 : Int32) < (0 : Int32)) from (by decide))).2.2.1) hk) ?_
  refine own_st (V := T1.setTop (mkF m 11 #[.val (.ref oa), .val (.int q), .val (.int (0 : Int32)), .unset] [(.ref oa)])) (fun _ hk => XS.aloadN X1.here hx rfl (hb hby d26_10) rfl rfl hk) ?_
  obtain ⟨T3, X3, e3, st3⟩ := getF X1 hx hZ hown (host := "") (Or.inl (hw _ (List.mem_of_getElem? (i := 119) rfl))) Via.refl e1 F_e (g := (mkF m 11 #[.val (.ref oa), .val (.int q), .val (.int (0 : Int32)), .unset] [(.ref oa)])) rfl rfl (hb hby d26_11)
  refine own_st (V := T3.setTop (mkF m 14 #[.val (.ref oa), .val (.int q), .val (.int (0 : Int32)), .unset] [(.ref dc)])) st3 ?_
  obtain ⟨T4, X4, e4, st4⟩ := getS2 X3 hx hZ hown (host := "") (Or.inl (hw _ (List.mem_of_getElem? (i := 118) rfl))) Via.refl e3 (Sdc.ext O.2) (g := (mkF m 14 #[.val (.ref oa), .val (.int q), .val (.int (0 : Int32)), .unset] [(.ref dc)])) rfl (hb hby d26_14)
  refine own_st (V := T4.setTop (mkF m 17 #[.val (.ref oa), .val (.int q), .val (.int (0 : Int32)), .unset] [(.ref dc), (.ref dc)])) st4 ?_
  refine own_st (V := T4.setTop (mkF m 45 #[.val (.ref oa), .val (.int q), .val (.int (0 : Int32)), .unset] [])) (fun _ hk => Jvm.RoadKit.acmp (g := (mkF m 17 #[.val (.ref oa), .val (.int q), .val (.int (0 : Int32)), .unset] [(.ref dc), (.ref dc)])) X4 hx rfl rfl rfl (pc0 := 17) (pc' := 45) (same := true) rfl (hb hby d26_17) rfl (decide_eq_true rfl) (by decide) (by decide) hk) ?_
  refine own_st (V := T4.setTop (mkF m 46 #[.val (.ref oa), .val (.int q), .val (.int (0 : Int32)), .unset] [(.ref oa)])) (fun _ hk => XS.aloadN X4.here hx rfl (hb hby d26_45) rfl rfl hk) ?_
  refine own_st (V := T4.setTop (mkF m 48 #[.val (.ref oa), .val (.int q), .val (.int (0 : Int32)), .unset] [(.int (10 : Int32)), (.ref oa)])) (fun _ hk => XS.bipush X4.here hx rfl (hb hby d26_46) hk) ?_
  refine own_st (V := T4.setTop (mkF m 49 #[.val (.ref oa), .val (.int q), .val (.int (0 : Int32)), .unset] [(.int q), (.int (10 : Int32)), (.ref oa)])) (fun _ hk => XS.iloadN X4.here hx rfl (hb hby d26_48) rfl  hk) ?_
  obtain ⟨_, _, ⟨T5, L5, k5, n5⟩, -, X5, ⟨Lc5, hQ5, l5, y5, z5⟩, st5⟩ := Jvm.LawKit.callS X4 hx (y := (⟨"java/lang/Math", "max", "(II)I"⟩ : MethodName)) hown (mvT hZ (hw _ (List.mem_of_getElem? (i := 202) rfl))) (mvT hZ (hw _ (List.mem_of_getElem? (i := 203) rfl))) (mvT hZ (hw _ (List.mem_of_getElem? (i := 204) rfl))) (mvT hZ (hw _ (List.mem_of_getElem? (i := 205) rfl))) (by decide) (backOf (W := 1) (rm_max l Z a0 hw [] (10 : Int32) q h0 n0 Z0 hq) hZ (hw _ (List.mem_of_getElem? (i := 205) rfl)) (hw _ (List.mem_of_getElem? (i := 204) rfl)) (by decide) (by decide)) (g := (mkF m 49 #[.val (.ref oa), .val (.int q), .val (.int (0 : Int32)), .unset] [(.int q), (.int (10 : Int32)), (.ref oa)])) rfl (by rw [hml]; rfl) (argsL := [(.int (10 : Int32)), (.int q)]) (rest := [(.ref oa)]) (lenOf own_pd8 rfl) rfl (by show 2 * 0 + _ ≤ _; exact Nat.le_of_eq rfl) (hb hby d26_49) (fun _ _ => ⟨rfl, e4, (by decide : 0 + 0 ≤ _), (by decide : 0 + 0 ≤ _)⟩)
  dsimp only [Pt.U, Pt.locs, Pt.cells, Pt.slots] at X5 l5 y5 z5 st5 hQ5
  subst l5 y5 z5
  obtain ⟨rfl, N5q, es5⟩ := hQ5
  have N5 := Fr.app N0 N5q
  refine own_st (V := T5.setTop (mkF m 52 #[.val (.ref oa), .val (.int q), .val (.int (0 : Int32)), .unset] [(.int (10 : Int32)), (.ref oa)])) st5 ?_
  obtain ⟨T6, h6, k6, X6, e6, E6, A6, Ex6, Ov6, st6⟩ := newRE X5 hx hZ hown (hw _ (List.mem_of_getElem? (i := 206) rfl)) (hw _ (List.mem_of_getElem? (i := 207) rfl)) es5 (g := (mkF m 52 #[.val (.ref oa), .val (.int q), .val (.int (0 : Int32)), .unset] [(.int (10 : Int32)), (.ref oa)])) rfl (hb hby d26_52) rfl (by decide) (cap := 10) (by decide) (by decide) (by decide) (by decide) (ad := "[Ljava/lang/Object;") (by decide)
  obtain ⟨b6, g6⟩ : ∃ z, z = h0.size := ⟨_, rfl⟩
  rw [← g6] at A6 Ex6 st6
  have ne_oa_b6 : oa ≠ b6 := Nat.ne_of_lt (Nat.lt_of_lt_of_le E_a.lt (Nat.le_of_eq g6.symm))
  have ne_b6_oa : b6 ≠ oa := Ne.symm ne_oa_b6
  have g_b6 : n0 ≤ b6 := Nat.le_trans Z0 (Nat.le_of_eq g6.symm)
  have sz_b6 : h0.size ≤ b6 := Nat.le_trans K.1 (Nat.le_of_eq g6.symm)
  have E_a := E_a.ext E6
  have F_m := F_m.ext E6
  have F_e := F_e.ext E6
  have F_z := F_z.ext E6
  have O := O.ext E6
  have K := K.ext E6
  have Z0 : n0 ≤ h6.size := Nat.le_trans Z0 E6.1
  have V_b6 : Arv Z h6 b6 k6 (.object "java/lang/Object") (10 : Int32) [.null, .null, .null, .null, .null, .null, .null, .null, .null, .null] .null := (Arv.new A6 (by decide)).pad (pad_rep [] .null 10)
  have E_b6 := Ex6
  refine own_st (V := T6.setTop (mkF m 55 #[.val (.ref oa), .val (.int q), .val (.int (0 : Int32)), .unset] [(.ref b6), (.ref oa)])) st6 ?_
  refine own_st (V := T6.setTop (mkF m 56 #[.val (.ref oa), .val (.int q), .val (.int (0 : Int32)), .unset] [(.ref b6), (.ref oa), (.ref b6)])) (fun _ hk => XS.dupX1 X6.here hx rfl (hb hby d26_55) rfl rfl rfl hk) ?_
  obtain ⟨T7, h7, X7, e7, W7, st7⟩ := putF X6 hx hZ hown (host := "") (Or.inl (hw _ (List.mem_of_getElem? (i := 119) rfl))) Via.refl e6 F_e E_a (Or.inl (hw _ (List.mem_of_getElem? (i := 120) rfl))) (hw _ (List.mem_of_getElem? (i := 98) rfl)) (ty := (.array (.object "java/lang/Object"))) (by decide) rfl rfl (g := (mkF m 56 #[.val (.ref oa), .val (.int q), .val (.int (0 : Int32)), .unset] [(.ref b6), (.ref oa), (.ref b6)])) rfl rfl (hb hby d26_56)
  have E_a := E_a.wr W7
  have F_m := F_m.other W7 (Or.inr (slot_ne (Or.inl (hw _ (List.mem_of_getElem? (i := 117) rfl))) (Or.inl (hw _ (List.mem_of_getElem? (i := 120) rfl))) (by decide) (t := .int) (t' := (.array (.object "java/lang/Object"))) (by decide) (by decide)))
  have F_z := F_z.other W7 (Or.inr (slot_ne (Or.inl (hw _ (List.mem_of_getElem? (i := 152) rfl))) (Or.inl (hw _ (List.mem_of_getElem? (i := 120) rfl))) (by decide) (t := .int) (t' := (.array (.object "java/lang/Object"))) (by decide) (by decide)))
  have V_b6 := V_b6.other W7 ne_b6_oa
  have E_b6 := E_b6.wr W7
  have F_e := F_e.same W7
  have K := K.wr W7 (Or.inl (List.mem_of_getElem? (i := 0) rfl))
  have N7 := Fr.snoc X7 N5 g_oa
  have O := O.wr W7 g_oa
  have Z0 : n0 ≤ h7.size := Nat.le_trans Z0 (Keep.of_wr W7).1
  refine own_st (V := T7.setTop (mkF m 59 #[.val (.ref oa), .val (.int q), .val (.int (0 : Int32)), .unset] [(.ref b6)])) st7 ?_
  exact own_retA X7 hx Bd.notSynchronized Bd.returns rfl rfl (hb hby d26_59) (by decide) (by decide) (fun U hU hE => hF _ _ ⟨_, _, rfl, (by rw [hU, e7]; exact ⟨_, _, rfl, N7, K, sz_b6, F_m, F_e, F_z, V_b6, Ov6, E_b6⟩), hE⟩)
theorem d25_0 : decode jdk_38_method_7_code 0 = .ok (.aload_n 0, 1) := by decide +kernel
theorem d25_1 : decode jdk_38_method_7_code 1 = .ok (.aload_n 0, 1) := by decide +kernel
theorem d25_2 : decode jdk_38_method_7_code 2 = .ok (.getfield 48, 3) := by decide +kernel
theorem d25_5 : decode jdk_38_method_7_code 5 = .ok (.iconst 1, 1) := by decide +kernel
theorem d25_6 : decode jdk_38_method_7_code 6 = .ok (.iadd, 1) := by decide +kernel
theorem d25_7 : decode jdk_38_method_7_code 7 = .ok (.invokevirtual 69, 3) := by decide +kernel
theorem own_pd9 : parseMethodDescriptor "(I)[Ljava/lang/Object;" = some ⟨[.int], some (.array (.object "java/lang/Object"))⟩ := by decide +kernel
theorem d25_10 : decode jdk_38_method_7_code 10 = .ok (.areturn, 1) := by decide +kernel
theorem own_ef_grow (m : MethodId) (x0 : Addr) : entryFrame m #[(.ref x0)] 1 = mkF m 0 #[.val (.ref x0)] [] := by first | (simp [entryFrame, mkF, argsToLocals, Value.category]; done) | rfl
def Q_grow (Z : State) (oa : Addr) (mc : Int32) (dc el ea em mr : Addr) (kd ke : ClassId) (h0 : Heap) (n0 : Nat) (v : Option Value) (h : Heap) (L : List Loc) : Prop := ∃ (t : Addr) (kt : ClassId), v = some (.ref t) ∧ Fr n0 L ∧ Keep h0 h [oa] ∧ h0.size ≤ t ∧ Fld Z h oa "java/util/AbstractList" "modCount" "I" (.int mc) ∧ Fld Z h oa "java/util/ArrayList" "elementData" "[Ljava/lang/Object;" (.ref t) ∧ Fld Z h oa "java/util/ArrayList" "size" "I" (.int 0) ∧ Arv Z h t kt (.object "java/lang/Object") (10 : Int32) [.null, .null, .null, .null, .null, .null, .null, .null, .null, .null] .null ∧ Ovr Z kt "java/lang/Object" ∧ Exa Z h t "[Ljava/lang/Object;"
set_option maxRecDepth 65536 in
set_option maxHeartbeats 40000000 in
theorem rm_grow (l : Launch) (Z : State) (a0 : Array Value) (hw : ∀ d ∈ tables_1, d.before a0 Z = true) (ws : List Jvm.Cond) (oa : Addr) (mc : Int32) (dc el ea em mr : Addr) (kd ke : ClassId) (h0 : Heap) (n0 : Nat) (Z0 : n0 ≤ h0.size) (O : Old Z n0 h0) (hT : own_ST Z dc el ea em mr kd ke) (E_a : Exa Z h0 oa "java/util/ArrayList") (F_m : Fld Z h0 oa "java/util/AbstractList" "modCount" "I" (.int mc)) (F_e : Fld Z h0 oa "java/util/ArrayList" "elementData" "[Ljava/lang/Object;" (.ref dc)) (F_z : Fld Z h0 oa "java/util/ArrayList" "size" "I" (.int 0)) (g_oa : n0 ≤ oa) :
    MetFree l (⟨"java/util/ArrayList", "grow", "()[Ljava/lang/Object;"⟩ : MethodName) (head1 (Jvm.Cond.code (⟨"java/util/ArrayList", "grow", "()[Ljava/lang/Object;"⟩ : MethodName) jdk_38_method_7_code 1 (some (.array (.object "java/lang/Object"))) :: ws) ({ frames := 2, cells := 1, slots := 10, locals := 29 } : Room)) (fun a U => a = #[(.ref oa)] ∧ Z.Warmed39 U.vm ∧ U.heap = h0) (fun _ _ _ _ _ => True) (fun _ U o U' => ∃ v L, o = .returned v ∧ Q_grow Z oa mc dc el ea em mr kd ke h0 n0 v U'.heap L ∧ FrameEnd U o U' L ({ frames := 2, cells := 1, slots := 10, locals := 29 } : Room).cells ({ frames := 2, cells := 1, slots := 10, locals := 29 } : Room).slots) := by
  refine MetFree.of_bodySF (plainFor_of_name own_pn_java_util_ArrayList) hisR ?_
  intro p e s m args below meth c s₁ Bd hml0 hP hK
  obtain ⟨rfl, hZ, hh⟩ := hP
  have hx := Bd.exec
  have hby := Bd.bytes
  have hml : c.maxLocals = 1 := hml0
  have hown : s.vm.findClass "java/util/ArrayList" = some m.cls := findClass_of_methodNamed Bd.named
  have hnm := (name_of_methodNamed Bd.named Bd.method).1
  have X0 : Stand p l e ({ frames := 2, cells := 1, slots := 10, locals := 29 } : Room) s m #[(.ref oa)] below meth c s₁ [] 0 0 := Stand.of_body Bd
  have e0 : s₁.heap = h0 := by rw [← hh, Bd.state]; rfl
  have N0 := Fr.nil n0
  refine own_start (F0 := fun o U' => ∃ v L, o = .returned v ∧ Q_grow Z oa mc dc el ea em mr kd ke h0 n0 v U'.heap L ∧ FrameEnd s o U' L ({ frames := 2, cells := 1, slots := 10, locals := 29 } : Room).cells ({ frames := 2, cells := 1, slots := 10, locals := 29 } : Room).slots) fun F hF => ?_
  rw [own_ef_grow m oa]
  have K := Keep.refl h0 [oa]
  refine own_st (V := s₁.setTop (mkF m 1 #[.val (.ref oa)] [(.ref oa)])) (fun _ hk => XS.aloadN X0.here hx rfl (hb hby d25_0) rfl rfl hk) ?_
  refine own_st (V := s₁.setTop (mkF m 2 #[.val (.ref oa)] [(.ref oa), (.ref oa)])) (fun _ hk => XS.aloadN X0.here hx rfl (hb hby d25_1) rfl rfl hk) ?_
  obtain ⟨T1, X1, e1, st1⟩ := getF X0 hx hZ hown (host := "") (Or.inl (hw _ (List.mem_of_getElem? (i := 151) rfl))) Via.refl e0 F_z (g := (mkF m 2 #[.val (.ref oa)] [(.ref oa), (.ref oa)])) rfl rfl (hb hby d25_2)
  refine own_st (V := T1.setTop (mkF m 5 #[.val (.ref oa)] [(.int (0 : Int32)), (.ref oa)])) st1 ?_
  refine own_st (V := T1.setTop (mkF m 6 #[.val (.ref oa)] [(.int (1 : Int32)), (.int (0 : Int32)), (.ref oa)])) (fun _ hk => XS.iconst X1.here hx rfl (hb hby d25_5) hk) ?_
  refine own_st (V := T1.setTop (mkF m 7 #[.val (.ref oa)] [(.int ((0 : Int32) + (1 : Int32))), (.ref oa)])) (fun _ hk => XS.iadd X1.here hx rfl (hb hby d25_6) rfl hk) ?_
  obtain ⟨cq2, q2, qq2⟩ := E_a.cell
  obtain ⟨_, _, ⟨T2, L2, k2, n2⟩, -, X2, ⟨Lc2, hQ2, l2, y2, z2⟩, st2⟩ := X1.privateBack hx (y := (⟨"java/util/ArrayList", "grow", "(I)[Ljava/lang/Object;"⟩ : MethodName)) hown (mvT hZ (hw _ (List.mem_of_getElem? (i := 197) rfl))) (mvT hZ (hw _ (List.mem_of_getElem? (i := 198) rfl))) (mvT hZ (hw _ (List.mem_of_getElem? (i := 200) rfl))) (Cond.privateMethod_at (mvP hZ (hw _ (List.mem_of_getElem? (i := 199) rfl)) (args := #[]))) (mvT hZ (hw _ (List.mem_of_getElem? (i := 201) rfl))) (by decide) (backOf (W := 0) (rm_growI l Z a0 hw [] oa _ mc dc el ea em mr kd ke h0 n0 Z0 O hT E_a F_m F_e F_z g_oa (by decide)) hZ (hw _ (List.mem_of_getElem? (i := 201) rfl)) (hw _ (List.mem_of_getElem? (i := 99) rfl)) (by decide) (by decide)) (g := (mkF m 7 #[.val (.ref oa)] [(.int ((0 : Int32) + (1 : Int32))), (.ref oa)])) rfl (by rw [hml]; rfl) (Steps.refl _) (a := oa) (by rw [e1]; exact q2) qq2 (argsL := [(.int ((0 : Int32) + (1 : Int32)))]) (rest := []) (lenOf own_pd9 rfl) rfl (by show 2 * 0 + _ ≤ _; exact Nat.le_of_eq rfl) (hb hby d25_7) (fun _ _ => ⟨rfl, e1, (by decide : 0 + 1 ≤ _), (by decide : 0 + 10 ≤ _)⟩)
  dsimp only [Pt.U, Pt.locs, Pt.cells, Pt.slots] at X2 l2 y2 z2 st2 hQ2
  subst l2 y2 z2
  obtain ⟨t, kt, rfl, N2q, Kc, szt, G_m, G_e, G_z, V_t, Ov, E_t⟩ := hQ2
  have N2 := Fr.app N0 N2q
  refine own_tr (V := T2.setTop (mkF m 10 #[.val (.ref oa)] [(.ref t)])) st2 ?_
  have E_a := E_a.keep Kc
  have Z0 : n0 ≤ T2.heap.size := Nat.le_trans Z0 Kc.1
  have O := O.keep Kc (allS g_oa all0)
  have K := K.trans Kc (allS (Or.inl (List.mem_of_getElem? (i := 0) rfl)) all0)
  exact own_retA X2 hx Bd.notSynchronized Bd.returns rfl rfl (hb hby d25_10) (by decide) (by decide) (fun U hU hE => hF _ _ ⟨_, _, rfl, (by rw [hU]; exact ⟨_, _, rfl, N2, K, szt, G_m, G_e, G_z, V_t, Ov, E_t⟩), hE⟩)
theorem d24_0 : decode jdk_38_method_24_code 0 = .ok (.iload_n 3, 1) := by decide +kernel
theorem d24_1 : decode jdk_38_method_24_code 1 = .ok (.aload_n 2, 1) := by decide +kernel
theorem d24_2 : decode jdk_38_method_24_code 2 = .ok (.arraylength, 1) := by decide +kernel
theorem d24_3 : decode jdk_38_method_24_code 3 = .ok (.if_icmp .ne 8, 3) := by decide +kernel
theorem d24_6 : decode jdk_38_method_24_code 6 = .ok (.aload_n 0, 1) := by decide +kernel
theorem d24_7 : decode jdk_38_method_24_code 7 = .ok (.invokevirtual 129, 3) := by decide +kernel
theorem own_pd10 : parseMethodDescriptor "()[Ljava/lang/Object;" = some ⟨[], some (.array (.object "java/lang/Object"))⟩ := by decide +kernel
theorem d24_10 : decode jdk_38_method_24_code 10 = .ok (.astore_n 2, 1) := by decide +kernel
theorem d24_11 : decode jdk_38_method_24_code 11 = .ok (.aload_n 2, 1) := by decide +kernel
theorem d24_12 : decode jdk_38_method_24_code 12 = .ok (.iload_n 3, 1) := by decide +kernel
theorem d24_13 : decode jdk_38_method_24_code 13 = .ok (.aload_n 1, 1) := by decide +kernel
theorem d24_14 : decode jdk_38_method_24_code 14 = .ok (.aastore, 1) := by decide +kernel
theorem d24_15 : decode jdk_38_method_24_code 15 = .ok (.aload_n 0, 1) := by decide +kernel
theorem d24_16 : decode jdk_38_method_24_code 16 = .ok (.iload_n 3, 1) := by decide +kernel
theorem d24_17 : decode jdk_38_method_24_code 17 = .ok (.iconst 1, 1) := by decide +kernel
theorem d24_18 : decode jdk_38_method_24_code 18 = .ok (.iadd, 1) := by decide +kernel
theorem d24_19 : decode jdk_38_method_24_code 19 = .ok (.putfield 48, 3) := by decide +kernel
theorem d24_22 : decode jdk_38_method_24_code 22 = .ok (.return_, 1) := by decide +kernel
theorem own_ef_add3a (m : MethodId) (x0 : Addr) (x1 : Addr) (x2 : Addr) (x3 : Int32) : entryFrame m #[(.ref x0), (.ref x1), (.ref x2), (.int x3)] 4 = mkF m 0 #[.val (.ref x0), .val (.ref x1), .val (.ref x2), .val (.int x3)] [] := by first | (simp [entryFrame, mkF, argsToLocals, Value.category]; done) | rfl
def Q_add3a (Z : State) (oa y1 : Addr) (mc : Int32) (dc el ea em mr : Addr) (kd ke : ClassId) (h0 : Heap) (n0 : Nat) (v : Option Value) (h : Heap) (L : List Loc) : Prop := ∃ (t : Addr) (kt : ClassId), v = none ∧ Fr n0 L ∧ Keep h0 h [oa] ∧ h0.size ≤ t ∧ Fld Z h oa "java/util/AbstractList" "modCount" "I" (.int mc) ∧ Fld Z h oa "java/util/ArrayList" "elementData" "[Ljava/lang/Object;" (.ref t) ∧ Fld Z h oa "java/util/ArrayList" "size" "I" (.int 1) ∧ Arv Z h t kt (.object "java/lang/Object") (10 : Int32) [(.ref y1), .null, .null, .null, .null, .null, .null, .null, .null, .null] .null ∧ Ovr Z kt "java/lang/Object" ∧ Exa Z h t "[Ljava/lang/Object;"
set_option maxRecDepth 65536 in
set_option maxHeartbeats 40000000 in
theorem rm_add3a (l : Launch) (Z : State) (a0 : Array Value) (hw : ∀ d ∈ tables_1, d.before a0 Z = true) (ws : List Jvm.Cond) (oa y1 : Addr) (mc : Int32) (dc el ea em mr : Addr) (kd ke : ClassId) (h0 : Heap) (n0 : Nat) (Z0 : n0 ≤ h0.size) (O : Old Z n0 h0) (hT : own_ST Z dc el ea em mr kd ke) (E_a : Exa Z h0 oa "java/util/ArrayList") (F_m : Fld Z h0 oa "java/util/AbstractList" "modCount" "I" (.int mc)) (F_e : Fld Z h0 oa "java/util/ArrayList" "elementData" "[Ljava/lang/Object;" (.ref dc)) (F_z : Fld Z h0 oa "java/util/ArrayList" "size" "I" (.int 0)) (g_oa : n0 ≤ oa) (E_y1 : Exa Z h0 y1 "com/example/vestline/vestline/service/SetAside") :
    MetFree l (⟨"java/util/ArrayList", "add", "(Ljava/lang/Object;[Ljava/lang/Object;I)V"⟩ : MethodName) (head1 (Jvm.Cond.code (⟨"java/util/ArrayList", "add", "(Ljava/lang/Object;[Ljava/lang/Object;I)V"⟩ : MethodName) jdk_38_method_24_code 4 none :: ws) ({ frames := 3, cells := 1, slots := 10, locals := 41 } : Room)) (fun a U => a = #[(.ref oa), (.ref y1), (.ref dc), (.int (0 : Int32))] ∧ Z.Warmed39 U.vm ∧ U.heap = h0) (fun _ _ _ _ _ => True) (fun _ U o U' => ∃ v L, o = .returned v ∧ Q_add3a Z oa y1 mc dc el ea em mr kd ke h0 n0 v U'.heap L ∧ FrameEnd U o U' L ({ frames := 3, cells := 1, slots := 10, locals := 41 } : Room).cells ({ frames := 3, cells := 1, slots := 10, locals := 41 } : Room).slots) := by
  refine MetFree.of_bodySF (plainFor_of_name own_pn_java_util_ArrayList) hisR ?_
  intro p e s m args below meth c s₁ Bd hml0 hP hK
  obtain ⟨rfl, hZ, hh⟩ := hP
  have hx := Bd.exec
  have hby := Bd.bytes
  have hml : c.maxLocals = 4 := hml0
  have hown : s.vm.findClass "java/util/ArrayList" = some m.cls := findClass_of_methodNamed Bd.named
  have hnm := (name_of_methodNamed Bd.named Bd.method).1
  have X0 : Stand p l e ({ frames := 3, cells := 1, slots := 10, locals := 41 } : Room) s m #[(.ref oa), (.ref y1), (.ref dc), (.int (0 : Int32))] below meth c s₁ [] 0 0 := Stand.of_body Bd
  have e0 : s₁.heap = h0 := by rw [← hh, Bd.state]; rfl
  have N0 := Fr.nil n0
  refine own_start (F0 := fun o U' => ∃ v L, o = .returned v ∧ Q_add3a Z oa y1 mc dc el ea em mr kd ke h0 n0 v U'.heap L ∧ FrameEnd s o U' L ({ frames := 3, cells := 1, slots := 10, locals := 41 } : Room).cells ({ frames := 3, cells := 1, slots := 10, locals := 41 } : Room).slots) fun F hF => ?_
  rw [own_ef_add3a m oa y1 dc (0 : Int32)]
  have E_a0 := E_a.lt
  have Zs := Z0
  have K := Keep.refl h0 [oa]
  have hT' := hT
  obtain ⟨Sdc, Vdc, Sel, Eel, Fel, Vea, Sem, Eem, hM⟩ := hT
  refine own_st (V := s₁.setTop (mkF m 1 #[.val (.ref oa), .val (.ref y1), .val (.ref dc), .val (.int (0 : Int32))] [(.int (0 : Int32))])) (fun _ hk => XS.iloadN X0.here hx rfl (hb hby d24_0) rfl  hk) ?_
  refine own_st (V := s₁.setTop (mkF m 2 #[.val (.ref oa), .val (.ref y1), .val (.ref dc), .val (.int (0 : Int32))] [(.ref dc), (.int (0 : Int32))])) (fun _ hk => XS.aloadN X0.here hx rfl (hb hby d24_1) rfl rfl hk) ?_
  have V_dc := Vdc.ext O.2
  obtain ⟨cl1, Ar1, -, Sz1, Ng1, -, -⟩ := (id V_dc : _)
  refine own_st (V := s₁.setTop (mkF m 3 #[.val (.ref oa), .val (.ref y1), .val (.ref dc), .val (.int (0 : Int32))] [(.int cl1.slots.size.toInt32), (.int (0 : Int32))])) (X0.arraylength hx (by rw [e0]; exact Ar1.1) (State.isArrayOf_alike hZ.alike Ar1.2.1) (g := (mkF m 2 #[.val (.ref oa), .val (.ref y1), .val (.ref dc), .val (.int (0 : Int32))] [(.ref dc), (.int (0 : Int32))])) rfl rfl (hb hby d24_2)) ?_
  rw [len_of Sz1 Ng1]
  refine own_st (V := s₁.setTop (mkF m 6 #[.val (.ref oa), .val (.ref y1), .val (.ref dc), .val (.int (0 : Int32))] [])) (fun _ hk => XS.icmpNo X0.here hx rfl (hb hby d24_3) rfl (teq (show (0 : Int32) = (0 : Int32) from rfl)).2 hk) ?_
  refine own_st (V := s₁.setTop (mkF m 7 #[.val (.ref oa), .val (.ref y1), .val (.ref dc), .val (.int (0 : Int32))] [(.ref oa)])) (fun _ hk => XS.aloadN X0.here hx rfl (hb hby d24_6) rfl rfl hk) ?_
  obtain ⟨cq2, q2, qq2⟩ := E_a.cell
  obtain ⟨_, _, ⟨T2, L2, k2, n2⟩, -, X2, ⟨Lc2, hQ2, l2, y2, z2⟩, st2⟩ := X0.privateBack hx (y := (⟨"java/util/ArrayList", "grow", "()[Ljava/lang/Object;"⟩ : MethodName)) hown (mvT hZ (hw _ (List.mem_of_getElem? (i := 192) rfl))) (mvT hZ (hw _ (List.mem_of_getElem? (i := 193) rfl))) (mvT hZ (hw _ (List.mem_of_getElem? (i := 195) rfl))) (Cond.privateMethod_at (mvP hZ (hw _ (List.mem_of_getElem? (i := 194) rfl)) (args := #[]))) (mvT hZ (hw _ (List.mem_of_getElem? (i := 196) rfl))) (by decide) (backOf (W := 0) (rm_grow l Z a0 hw [] oa mc dc el ea em mr kd ke h0 n0 Z0 O hT' E_a F_m F_e F_z g_oa) hZ (hw _ (List.mem_of_getElem? (i := 196) rfl)) (hw _ (List.mem_of_getElem? (i := 99) rfl)) (by decide) (by decide)) (g := (mkF m 7 #[.val (.ref oa), .val (.ref y1), .val (.ref dc), .val (.int (0 : Int32))] [(.ref oa)])) rfl (by rw [hml]; rfl) (Steps.refl _) (a := oa) (by rw [e0]; exact q2) qq2 (argsL := []) (rest := []) (lenOf own_pd10 rfl) rfl (by show 2 * 0 + _ ≤ _; exact Nat.le_of_eq rfl) (hb hby d24_7) (fun _ _ => ⟨rfl, e0, (by decide : 0 + 1 ≤ _), (by decide : 0 + 10 ≤ _)⟩)
  dsimp only [Pt.U, Pt.locs, Pt.cells, Pt.slots] at X2 l2 y2 z2 st2 hQ2
  subst l2 y2 z2
  obtain ⟨t, kt, rfl, N2q, Kc, szt, G_m, G_e, G_z, V_t, Ov, E_t⟩ := hQ2
  have N2 := Fr.app N0 N2q
  refine own_tr (V := T2.setTop (mkF m 10 #[.val (.ref oa), .val (.ref y1), .val (.ref dc), .val (.int (0 : Int32))] [(.ref t)])) st2 ?_
  have E_a := E_a.keep Kc
  have E_y1 := E_y1.keep Kc
  have Z0 : n0 ≤ T2.heap.size := Nat.le_trans Z0 Kc.1
  have O := O.keep Kc (allS g_oa all0)
  have K := K.trans Kc (allS (Or.inl (List.mem_of_getElem? (i := 0) rfl)) all0)
  have g_t : n0 ≤ t := Nat.le_trans Zs szt
  have sz_t : h0.size ≤ t := szt
  have ne_oa_t : oa ≠ t := Nat.ne_of_lt (Nat.lt_of_lt_of_le E_a0 szt)
  have ne_t_oa := Ne.symm ne_oa_t
  refine own_st (V := T2.setTop (mkF m 11 #[.val (.ref oa), .val (.ref y1), .val (.ref t), .val (.int (0 : Int32))] [])) (fun _ hk => XS.astoreN X2.here hx rfl (hb hby d24_10) rfl rfl (l' := #[.val (.ref oa), .val (.ref y1), .val (.ref t), .val (.int (0 : Int32))]) rfl hk) ?_
  refine own_st (V := T2.setTop (mkF m 12 #[.val (.ref oa), .val (.ref y1), .val (.ref t), .val (.int (0 : Int32))] [(.ref t)])) (fun _ hk => XS.aloadN X2.here hx rfl (hb hby d24_11) rfl rfl hk) ?_
  refine own_st (V := T2.setTop (mkF m 13 #[.val (.ref oa), .val (.ref y1), .val (.ref t), .val (.int (0 : Int32))] [(.int (0 : Int32)), (.ref t)])) (fun _ hk => XS.iloadN X2.here hx rfl (hb hby d24_12) rfl  hk) ?_
  refine own_st (V := T2.setTop (mkF m 14 #[.val (.ref oa), .val (.ref y1), .val (.ref t), .val (.int (0 : Int32))] [(.ref y1), (.int (0 : Int32)), (.ref t)])) (fun _ hk => XS.aloadN X2.here hx rfl (hb hby d24_13) rfl rfl hk) ?_
  obtain ⟨cl3, Ar3, q3, S3, M3, H3, G3⟩ := V_t
  have hin3 : ¬ ((0 : Int32) < 0 ∨ cl3.slots.size ≤ ((0 : Int32)).toNatClampNeg) := inb_of S3 ⟨by decide, by decide⟩
  obtain ⟨T3, h3, X3, e3, W3, st3⟩ := stR X2 hx hZ rfl Ar3 (j := (0 : Int32)) hin3 rfl (Sto.ofV Ar3 q3 Ov (Ins.of_exa E_y1 (hw _ (List.mem_of_getElem? (i := 208) rfl)))) (g := (mkF m 14 #[.val (.ref oa), .val (.ref y1), .val (.ref t), .val (.int (0 : Int32))] [(.ref y1), (.int (0 : Int32)), (.ref t)])) rfl rfl (hb hby d24_14)
  have E_a := E_a.wr W3
  have E_y1 := E_y1.wr W3
  have G_m := G_m.other W3 (Or.inl ne_oa_t)
  have G_e := G_e.other W3 (Or.inl ne_oa_t)
  have G_z := G_z.other W3 (Or.inl ne_oa_t)
  have E_t := E_t.wr W3
  have V_t : Arv Z h3 t kt (.object "java/lang/Object") (10 : Int32) [(.ref y1), .null, .null, .null, .null, .null, .null, .null, .null, .null] .null := Arv.set Ar3 q3 S3 M3 H3 G3 rfl W3 0 rfl (Nat.le_of_ble_eq_true rfl)
  have K := K.wr W3 (Or.inr sz_t)
  have N3 := Fr.snoc X3 N2 g_t
  have O := O.wr W3 g_t
  have Z0 : n0 ≤ h3.size := Nat.le_trans Z0 (Keep.of_wr W3).1
  refine own_st (V := T3.setTop (mkF m 15 #[.val (.ref oa), .val (.ref y1), .val (.ref t), .val (.int (0 : Int32))] [])) st3 ?_
  refine own_st (V := T3.setTop (mkF m 16 #[.val (.ref oa), .val (.ref y1), .val (.ref t), .val (.int (0 : Int32))] [(.ref oa)])) (fun _ hk => XS.aloadN X3.here hx rfl (hb hby d24_15) rfl rfl hk) ?_
  refine own_st (V := T3.setTop (mkF m 17 #[.val (.ref oa), .val (.ref y1), .val (.ref t), .val (.int (0 : Int32))] [(.int (0 : Int32)), (.ref oa)])) (fun _ hk => XS.iloadN X3.here hx rfl (hb hby d24_16) rfl  hk) ?_
  refine own_st (V := T3.setTop (mkF m 18 #[.val (.ref oa), .val (.ref y1), .val (.ref t), .val (.int (0 : Int32))] [(.int (1 : Int32)), (.int (0 : Int32)), (.ref oa)])) (fun _ hk => XS.iconst X3.here hx rfl (hb hby d24_17) hk) ?_
  refine own_st (V := T3.setTop (mkF m 19 #[.val (.ref oa), .val (.ref y1), .val (.ref t), .val (.int (0 : Int32))] [(.int ((0 : Int32) + (1 : Int32))), (.ref oa)])) (fun _ hk => XS.iadd X3.here hx rfl (hb hby d24_18) rfl hk) ?_
  obtain ⟨T4, h4, X4, e4, W4, st4⟩ := putF X3 hx hZ hown (host := "") (Or.inl (hw _ (List.mem_of_getElem? (i := 151) rfl))) Via.refl e3 G_z E_a (Or.inl (hw _ (List.mem_of_getElem? (i := 152) rfl))) (hw _ (List.mem_of_getElem? (i := 98) rfl)) (ty := .int) (by decide) rfl rfl (g := (mkF m 19 #[.val (.ref oa), .val (.ref y1), .val (.ref t), .val (.int (0 : Int32))] [(.int ((0 : Int32) + (1 : Int32))), (.ref oa)])) rfl rfl (hb hby d24_19)
  have E_a := E_a.wr W4
  have E_y1 := E_y1.wr W4
  have G_m := G_m.other W4 (Or.inr (slot_ne (Or.inl (hw _ (List.mem_of_getElem? (i := 117) rfl))) (Or.inl (hw _ (List.mem_of_getElem? (i := 152) rfl))) (by decide) (t := .int) (t' := .int) (by decide) (by decide)))
  have G_e := G_e.other W4 (Or.inr (slot_ne (Or.inl (hw _ (List.mem_of_getElem? (i := 120) rfl))) (Or.inl (hw _ (List.mem_of_getElem? (i := 152) rfl))) (by decide) (t := (.array (.object "java/lang/Object"))) (t' := .int) (by decide) (by decide)))
  have V_t := V_t.other W4 ne_t_oa
  have E_t := E_t.wr W4
  have G_z := G_z.same W4
  have K := K.wr W4 (Or.inl (List.mem_of_getElem? (i := 0) rfl))
  have N4 := Fr.snoc X4 N3 g_oa
  have O := O.wr W4 g_oa
  have Z0 : n0 ≤ h4.size := Nat.le_trans Z0 (Keep.of_wr W4).1
  refine own_st (V := T4.setTop (mkF m 22 #[.val (.ref oa), .val (.ref y1), .val (.ref t), .val (.int (0 : Int32))] [])) st4 ?_
  exact own_retV X4 hx Bd.notSynchronized Bd.returns (hb hby d24_22) (by decide) (by decide) (fun U hU hE => hF _ _ ⟨_, _, rfl, (by rw [hU, e4]; exact ⟨_, _, rfl, N4, K, szt, G_m, G_e, G_z, V_t, Ov, E_t⟩), hE⟩)
theorem own_ef_add3b (m : MethodId) (x0 : Addr) (x1 : Addr) (x2 : Addr) (x3 : Int32) : entryFrame m #[(.ref x0), (.ref x1), (.ref x2), (.int x3)] 4 = mkF m 0 #[.val (.ref x0), .val (.ref x1), .val (.ref x2), .val (.int x3)] [] := by first | (simp [entryFrame, mkF, argsToLocals, Value.category]; done) | rfl
def Q_add3b (Z : State) (oa t y1 y2 : Addr) (kt : ClassId) (mc : Int32) (h0 : Heap) (n0 : Nat) (v : Option Value) (h : Heap) (L : List Loc) : Prop := v = none ∧ Fr n0 L ∧ Keep h0 h [oa, t] ∧ Fld Z h oa "java/util/AbstractList" "modCount" "I" (.int mc) ∧ Fld Z h oa "java/util/ArrayList" "elementData" "[Ljava/lang/Object;" (.ref t) ∧ Fld Z h oa "java/util/ArrayList" "size" "I" (.int 2) ∧ Arv Z h t kt (.object "java/lang/Object") (10 : Int32) [(.ref y1), (.ref y2), .null, .null, .null, .null, .null, .null, .null, .null] .null
set_option maxRecDepth 65536 in
set_option maxHeartbeats 40000000 in
theorem rm_add3b (l : Launch) (Z : State) (a0 : Array Value) (hw : ∀ d ∈ tables_1, d.before a0 Z = true) (ws : List Jvm.Cond) (oa t y1 y2 : Addr) (kt : ClassId) (mc : Int32) (h0 : Heap) (n0 : Nat) (Z0 : n0 ≤ h0.size) (O : Old Z n0 h0) (E_a : Exa Z h0 oa "java/util/ArrayList") (F_m : Fld Z h0 oa "java/util/AbstractList" "modCount" "I" (.int mc)) (F_e : Fld Z h0 oa "java/util/ArrayList" "elementData" "[Ljava/lang/Object;" (.ref t)) (F_z : Fld Z h0 oa "java/util/ArrayList" "size" "I" (.int 1)) (g_oa : n0 ≤ oa) (V_t : Arv Z h0 t kt (.object "java/lang/Object") (10 : Int32) [(.ref y1), .null, .null, .null, .null, .null, .null, .null, .null, .null] .null) (Ov : Ovr Z kt "java/lang/Object") (E_t : Exa Z h0 t "[Ljava/lang/Object;") (g_t : n0 ≤ t) (ne_oa_t : oa ≠ t) (E_y2 : Exa Z h0 y2 "com/example/vestline/vestline/service/SetAside") :
    MetFree l (⟨"java/util/ArrayList", "add", "(Ljava/lang/Object;[Ljava/lang/Object;I)V"⟩ : MethodName) (head1 (Jvm.Cond.code (⟨"java/util/ArrayList", "add", "(Ljava/lang/Object;[Ljava/lang/Object;I)V"⟩ : MethodName) jdk_38_method_24_code 4 none :: ws) ({ frames := 0, cells := 0, slots := 0, locals := 0 } : Room)) (fun a U => a = #[(.ref oa), (.ref y2), (.ref t), (.int (1 : Int32))] ∧ Z.Warmed39 U.vm ∧ U.heap = h0) (fun _ _ _ _ _ => True) (fun _ U o U' => ∃ v L, o = .returned v ∧ Q_add3b Z oa t y1 y2 kt mc h0 n0 v U'.heap L ∧ FrameEnd U o U' L ({ frames := 0, cells := 0, slots := 0, locals := 0 } : Room).cells ({ frames := 0, cells := 0, slots := 0, locals := 0 } : Room).slots) := by
  refine MetFree.of_bodySF (plainFor_of_name own_pn_java_util_ArrayList) hisR ?_
  intro p e s m args below meth c s₁ Bd hml0 hP hK
  obtain ⟨rfl, hZ, hh⟩ := hP
  have hx := Bd.exec
  have hby := Bd.bytes
  have hml : c.maxLocals = 4 := hml0
  have hown : s.vm.findClass "java/util/ArrayList" = some m.cls := findClass_of_methodNamed Bd.named
  have hnm := (name_of_methodNamed Bd.named Bd.method).1
  have X0 : Stand p l e ({ frames := 0, cells := 0, slots := 0, locals := 0 } : Room) s m #[(.ref oa), (.ref y2), (.ref t), (.int (1 : Int32))] below meth c s₁ [] 0 0 := Stand.of_body Bd
  have e0 : s₁.heap = h0 := by rw [← hh, Bd.state]; rfl
  have N0 := Fr.nil n0
  refine own_start (F0 := fun o U' => ∃ v L, o = .returned v ∧ Q_add3b Z oa t y1 y2 kt mc h0 n0 v U'.heap L ∧ FrameEnd s o U' L ({ frames := 0, cells := 0, slots := 0, locals := 0 } : Room).cells ({ frames := 0, cells := 0, slots := 0, locals := 0 } : Room).slots) fun F hF => ?_
  rw [own_ef_add3b m oa y2 t (1 : Int32)]
  have ne_t_oa := Ne.symm ne_oa_t
  have K := Keep.refl h0 [oa, t]
  refine own_st (V := s₁.setTop (mkF m 1 #[.val (.ref oa), .val (.ref y2), .val (.ref t), .val (.int (1 : Int32))] [(.int (1 : Int32))])) (fun _ hk => XS.iloadN X0.here hx rfl (hb hby d24_0) rfl  hk) ?_
  refine own_st (V := s₁.setTop (mkF m 2 #[.val (.ref oa), .val (.ref y2), .val (.ref t), .val (.int (1 : Int32))] [(.ref t), (.int (1 : Int32))])) (fun _ hk => XS.aloadN X0.here hx rfl (hb hby d24_1) rfl rfl hk) ?_
  obtain ⟨cl1, Ar1, -, Sz1, Ng1, -, -⟩ := (id V_t : _)
  refine own_st (V := s₁.setTop (mkF m 3 #[.val (.ref oa), .val (.ref y2), .val (.ref t), .val (.int (1 : Int32))] [(.int cl1.slots.size.toInt32), (.int (1 : Int32))])) (X0.arraylength hx (by rw [e0]; exact Ar1.1) (State.isArrayOf_alike hZ.alike Ar1.2.1) (g := (mkF m 2 #[.val (.ref oa), .val (.ref y2), .val (.ref t), .val (.int (1 : Int32))] [(.ref t), (.int (1 : Int32))])) rfl rfl (hb hby d24_2)) ?_
  rw [len_of Sz1 Ng1]
  refine own_st (V := s₁.setTop (mkF m 11 #[.val (.ref oa), .val (.ref y2), .val (.ref t), .val (.int (1 : Int32))] [])) (fun _ hk => XS.icmpYes X0.here hx rfl (pc0 := 3) (pc' := 11) rfl (hb hby d24_3) rfl (feq (show ¬ ((1 : Int32) = (10 : Int32)) from (by decide))).2 (by decide) (by decide) hk) ?_
  refine own_st (V := s₁.setTop (mkF m 12 #[.val (.ref oa), .val (.ref y2), .val (.ref t), .val (.int (1 : Int32))] [(.ref t)])) (fun _ hk => XS.aloadN X0.here hx rfl (hb hby d24_11) rfl rfl hk) ?_
  refine own_st (V := s₁.setTop (mkF m 13 #[.val (.ref oa), .val (.ref y2), .val (.ref t), .val (.int (1 : Int32))] [(.int (1 : Int32)), (.ref t)])) (fun _ hk => XS.iloadN X0.here hx rfl (hb hby d24_12) rfl  hk) ?_
  refine own_st (V := s₁.setTop (mkF m 14 #[.val (.ref oa), .val (.ref y2), .val (.ref t), .val (.int (1 : Int32))] [(.ref y2), (.int (1 : Int32)), (.ref t)])) (fun _ hk => XS.aloadN X0.here hx rfl (hb hby d24_13) rfl rfl hk) ?_
  obtain ⟨cl2, Ar2, q2, S2, M2, H2, G2⟩ := V_t
  have hin2 : ¬ ((1 : Int32) < 0 ∨ cl2.slots.size ≤ ((1 : Int32)).toNatClampNeg) := inb_of S2 ⟨by decide, by decide⟩
  obtain ⟨T2, h2, X2, e2, W2, st2⟩ := stR X0 hx hZ e0 Ar2 (j := (1 : Int32)) hin2 rfl (Sto.ofV Ar2 q2 Ov (Ins.of_exa E_y2 (hw _ (List.mem_of_getElem? (i := 208) rfl)))) (g := (mkF m 14 #[.val (.ref oa), .val (.ref y2), .val (.ref t), .val (.int (1 : Int32))] [(.ref y2), (.int (1 : Int32)), (.ref t)])) rfl rfl (hb hby d24_14)
  have E_a := E_a.wr W2
  have F_m := F_m.other W2 (Or.inl ne_oa_t)
  have F_e := F_e.other W2 (Or.inl ne_oa_t)
  have F_z := F_z.other W2 (Or.inl ne_oa_t)
  have E_t := E_t.wr W2
  have E_y2 := E_y2.wr W2
  have V_t : Arv Z h2 t kt (.object "java/lang/Object") (10 : Int32) [(.ref y1), (.ref y2), .null, .null, .null, .null, .null, .null, .null, .null] .null := Arv.set Ar2 q2 S2 M2 H2 G2 rfl W2 1 rfl (Nat.le_of_ble_eq_true rfl)
  have K := K.wr W2 (Or.inl (List.mem_of_getElem? (i := 1) rfl))
  have N2 := Fr.snoc X2 N0 g_t
  have O := O.wr W2 g_t
  have Z0 : n0 ≤ h2.size := Nat.le_trans Z0 (Keep.of_wr W2).1
  refine own_st (V := T2.setTop (mkF m 15 #[.val (.ref oa), .val (.ref y2), .val (.ref t), .val (.int (1 : Int32))] [])) st2 ?_
  refine own_st (V := T2.setTop (mkF m 16 #[.val (.ref oa), .val (.ref y2), .val (.ref t), .val (.int (1 : Int32))] [(.ref oa)])) (fun _ hk => XS.aloadN X2.here hx rfl (hb hby d24_15) rfl rfl hk) ?_
  refine own_st (V := T2.setTop (mkF m 17 #[.val (.ref oa), .val (.ref y2), .val (.ref t), .val (.int (1 : Int32))] [(.int (1 : Int32)), (.ref oa)])) (fun _ hk => XS.iloadN X2.here hx rfl (hb hby d24_16) rfl  hk) ?_
  refine own_st (V := T2.setTop (mkF m 18 #[.val (.ref oa), .val (.ref y2), .val (.ref t), .val (.int (1 : Int32))] [(.int (1 : Int32)), (.int (1 : Int32)), (.ref oa)])) (fun _ hk => XS.iconst X2.here hx rfl (hb hby d24_17) hk) ?_
  refine own_st (V := T2.setTop (mkF m 19 #[.val (.ref oa), .val (.ref y2), .val (.ref t), .val (.int (1 : Int32))] [(.int ((1 : Int32) + (1 : Int32))), (.ref oa)])) (fun _ hk => XS.iadd X2.here hx rfl (hb hby d24_18) rfl hk) ?_
  obtain ⟨T3, h3, X3, e3, W3, st3⟩ := putF X2 hx hZ hown (host := "") (Or.inl (hw _ (List.mem_of_getElem? (i := 151) rfl))) Via.refl e2 F_z E_a (Or.inl (hw _ (List.mem_of_getElem? (i := 152) rfl))) (hw _ (List.mem_of_getElem? (i := 98) rfl)) (ty := .int) (by decide) rfl rfl (g := (mkF m 19 #[.val (.ref oa), .val (.ref y2), .val (.ref t), .val (.int (1 : Int32))] [(.int ((1 : Int32) + (1 : Int32))), (.ref oa)])) rfl rfl (hb hby d24_19)
  have E_a := E_a.wr W3
  have F_m := F_m.other W3 (Or.inr (slot_ne (Or.inl (hw _ (List.mem_of_getElem? (i := 117) rfl))) (Or.inl (hw _ (List.mem_of_getElem? (i := 152) rfl))) (by decide) (t := .int) (t' := .int) (by decide) (by decide)))
  have F_e := F_e.other W3 (Or.inr (slot_ne (Or.inl (hw _ (List.mem_of_getElem? (i := 120) rfl))) (Or.inl (hw _ (List.mem_of_getElem? (i := 152) rfl))) (by decide) (t := (.array (.object "java/lang/Object"))) (t' := .int) (by decide) (by decide)))
  have V_t := V_t.other W3 ne_t_oa
  have E_t := E_t.wr W3
  have E_y2 := E_y2.wr W3
  have F_z := F_z.same W3
  have K := K.wr W3 (Or.inl (List.mem_of_getElem? (i := 0) rfl))
  have N3 := Fr.snoc X3 N2 g_oa
  have O := O.wr W3 g_oa
  have Z0 : n0 ≤ h3.size := Nat.le_trans Z0 (Keep.of_wr W3).1
  refine own_st (V := T3.setTop (mkF m 22 #[.val (.ref oa), .val (.ref y2), .val (.ref t), .val (.int (1 : Int32))] [])) st3 ?_
  exact own_retV X3 hx Bd.notSynchronized Bd.returns (hb hby d24_22) (by decide) (by decide) (fun U hU hE => hF _ _ ⟨_, _, rfl, (by rw [hU, e3]; exact ⟨rfl, N3, K, F_m, F_e, F_z, V_t⟩), hE⟩)
theorem d23_0 : decode jdk_38_method_25_code 0 = .ok (.aload_n 0, 1) := by decide +kernel
theorem d23_1 : decode jdk_38_method_25_code 1 = .ok (.dup, 1) := by decide +kernel
theorem d23_2 : decode jdk_38_method_25_code 2 = .ok (.getfield 63, 3) := by decide +kernel
theorem d23_5 : decode jdk_38_method_25_code 5 = .ok (.iconst 1, 1) := by decide +kernel
theorem d23_6 : decode jdk_38_method_25_code 6 = .ok (.iadd, 1) := by decide +kernel
theorem d23_7 : decode jdk_38_method_25_code 7 = .ok (.putfield 63, 3) := by decide +kernel
theorem d23_10 : decode jdk_38_method_25_code 10 = .ok (.aload_n 0, 1) := by decide +kernel
theorem d23_11 : decode jdk_38_method_25_code 11 = .ok (.aload_n 1, 1) := by decide +kernel
theorem d23_12 : decode jdk_38_method_25_code 12 = .ok (.aload_n 0, 1) := by decide +kernel
theorem d23_13 : decode jdk_38_method_25_code 13 = .ok (.getfield 9, 3) := by decide +kernel
theorem d23_16 : decode jdk_38_method_25_code 16 = .ok (.aload_n 0, 1) := by decide +kernel
theorem d23_17 : decode jdk_38_method_25_code 17 = .ok (.getfield 48, 3) := by decide +kernel
theorem d23_20 : decode jdk_38_method_25_code 20 = .ok (.invokevirtual 131, 3) := by decide +kernel
theorem own_pd11 : parseMethodDescriptor "(Ljava/lang/Object;[Ljava/lang/Object;I)V" = some ⟨[(.object "java/lang/Object"), (.array (.object "java/lang/Object")), .int], none⟩ := by decide +kernel
theorem d23_23 : decode jdk_38_method_25_code 23 = .ok (.iconst 1, 1) := by decide +kernel
theorem d23_24 : decode jdk_38_method_25_code 24 = .ok (.ireturn, 1) := by decide +kernel
theorem own_ef_addA (m : MethodId) (x0 : Addr) (x1 : Addr) : entryFrame m #[(.ref x0), (.ref x1)] 2 = mkF m 0 #[.val (.ref x0), .val (.ref x1)] [] := by first | (simp [entryFrame, mkF, argsToLocals, Value.category]; done) | rfl
def Q_addA (Z : State) (oa y1 : Addr) (dc el ea em mr : Addr) (kd ke : ClassId) (h0 : Heap) (n0 : Nat) (v : Option Value) (h : Heap) (L : List Loc) : Prop := ∃ (t : Addr) (kt : ClassId), v = some (.int 1) ∧ Fr n0 L ∧ Keep h0 h [oa] ∧ h0.size ≤ t ∧ Fld Z h oa "java/util/AbstractList" "modCount" "I" (.int 1) ∧ Fld Z h oa "java/util/ArrayList" "elementData" "[Ljava/lang/Object;" (.ref t) ∧ Fld Z h oa "java/util/ArrayList" "size" "I" (.int 1) ∧ Arv Z h t kt (.object "java/lang/Object") (10 : Int32) [(.ref y1), .null, .null, .null, .null, .null, .null, .null, .null, .null] .null ∧ Ovr Z kt "java/lang/Object" ∧ Exa Z h t "[Ljava/lang/Object;"
set_option maxRecDepth 65536 in
set_option maxHeartbeats 40000000 in
theorem rm_addA (l : Launch) (Z : State) (a0 : Array Value) (hw : ∀ d ∈ tables_1, d.before a0 Z = true) (ws : List Jvm.Cond) (oa y1 : Addr) (dc el ea em mr : Addr) (kd ke : ClassId) (h0 : Heap) (n0 : Nat) (Z0 : n0 ≤ h0.size) (O : Old Z n0 h0) (hT : own_ST Z dc el ea em mr kd ke) (E_a : Exa Z h0 oa "java/util/ArrayList") (F_m : Fld Z h0 oa "java/util/AbstractList" "modCount" "I" (.int 0)) (F_e : Fld Z h0 oa "java/util/ArrayList" "elementData" "[Ljava/lang/Object;" (.ref dc)) (F_z : Fld Z h0 oa "java/util/ArrayList" "size" "I" (.int 0)) (g_oa : n0 ≤ oa) (E_y1 : Exa Z h0 y1 "com/example/vestline/vestline/service/SetAside") :
    MetFree l (⟨"java/util/ArrayList", "add", "(Ljava/lang/Object;)Z"⟩ : MethodName) (head1 (Jvm.Cond.code (⟨"java/util/ArrayList", "add", "(Ljava/lang/Object;)Z"⟩ : MethodName) jdk_38_method_25_code 2 (some .boolean) :: ws) ({ frames := 4, cells := 1, slots := 10, locals := 56 } : Room)) (fun a U => a = #[(.ref oa), (.ref y1)] ∧ Z.Warmed39 U.vm ∧ U.heap = h0) (fun _ _ _ _ _ => True) (fun _ U o U' => ∃ v L, o = .returned v ∧ Q_addA Z oa y1 dc el ea em mr kd ke h0 n0 v U'.heap L ∧ FrameEnd U o U' L ({ frames := 4, cells := 1, slots := 10, locals := 56 } : Room).cells ({ frames := 4, cells := 1, slots := 10, locals := 56 } : Room).slots) := by
  refine MetFree.of_bodySF (plainFor_of_name own_pn_java_util_ArrayList) hisR ?_
  intro p e s m args below meth c s₁ Bd hml0 hP hK
  obtain ⟨rfl, hZ, hh⟩ := hP
  have hx := Bd.exec
  have hby := Bd.bytes
  have hml : c.maxLocals = 2 := hml0
  have hown : s.vm.findClass "java/util/ArrayList" = some m.cls := findClass_of_methodNamed Bd.named
  have hnm := (name_of_methodNamed Bd.named Bd.method).1
  have X0 : Stand p l e ({ frames := 4, cells := 1, slots := 10, locals := 56 } : Room) s m #[(.ref oa), (.ref y1)] below meth c s₁ [] 0 0 := Stand.of_body Bd
  have e0 : s₁.heap = h0 := by rw [← hh, Bd.state]; rfl
  have N0 := Fr.nil n0
  refine own_start (F0 := fun o U' => ∃ v L, o = .returned v ∧ Q_addA Z oa y1 dc el ea em mr kd ke h0 n0 v U'.heap L ∧ FrameEnd s o U' L ({ frames := 4, cells := 1, slots := 10, locals := 56 } : Room).cells ({ frames := 4, cells := 1, slots := 10, locals := 56 } : Room).slots) fun F hF => ?_
  rw [own_ef_addA m oa y1]
  have K := Keep.refl h0 [oa]
  refine own_st (V := s₁.setTop (mkF m 1 #[.val (.ref oa), .val (.ref y1)] [(.ref oa)])) (fun _ hk => XS.aloadN X0.here hx rfl (hb hby d23_0) rfl rfl hk) ?_
  refine own_st (V := s₁.setTop (mkF m 2 #[.val (.ref oa), .val (.ref y1)] [(.ref oa), (.ref oa)])) (fun _ hk => XS.dup X0.here hx rfl (hb hby d23_1) rfl rfl hk) ?_
  obtain ⟨T1, X1, e1, st1⟩ := getF X0 hx hZ hown (host := "") (Or.inl (hw _ (List.mem_of_getElem? (i := 185) rfl))) (Via.of (hw _ (List.mem_of_getElem? (i := 186) rfl))) e0 F_m (g := (mkF m 2 #[.val (.ref oa), .val (.ref y1)] [(.ref oa), (.ref oa)])) rfl rfl (hb hby d23_2)
  refine own_st (V := T1.setTop (mkF m 5 #[.val (.ref oa), .val (.ref y1)] [(.int (0 : Int32)), (.ref oa)])) st1 ?_
  refine own_st (V := T1.setTop (mkF m 6 #[.val (.ref oa), .val (.ref y1)] [(.int (1 : Int32)), (.int (0 : Int32)), (.ref oa)])) (fun _ hk => XS.iconst X1.here hx rfl (hb hby d23_5) hk) ?_
  refine own_st (V := T1.setTop (mkF m 7 #[.val (.ref oa), .val (.ref y1)] [(.int ((0 : Int32) + (1 : Int32))), (.ref oa)])) (fun _ hk => XS.iadd X1.here hx rfl (hb hby d23_6) rfl hk) ?_
  obtain ⟨T2, h2, X2, e2, W2, st2⟩ := putF X1 hx hZ hown (host := "") (Or.inl (hw _ (List.mem_of_getElem? (i := 185) rfl))) (Via.of (hw _ (List.mem_of_getElem? (i := 186) rfl))) e1 F_m E_a (Or.inl (hw _ (List.mem_of_getElem? (i := 117) rfl))) (hw _ (List.mem_of_getElem? (i := 98) rfl)) (ty := .int) (by decide) rfl rfl (g := (mkF m 7 #[.val (.ref oa), .val (.ref y1)] [(.int ((0 : Int32) + (1 : Int32))), (.ref oa)])) rfl rfl (hb hby d23_7)
  have E_a := E_a.wr W2
  have F_e := F_e.other W2 (Or.inr (slot_ne (Or.inl (hw _ (List.mem_of_getElem? (i := 120) rfl))) (Or.inl (hw _ (List.mem_of_getElem? (i := 117) rfl))) (by decide) (t := (.array (.object "java/lang/Object"))) (t' := .int) (by decide) (by decide)))
  have F_z := F_z.other W2 (Or.inr (slot_ne (Or.inl (hw _ (List.mem_of_getElem? (i := 152) rfl))) (Or.inl (hw _ (List.mem_of_getElem? (i := 117) rfl))) (by decide) (t := .int) (t' := .int) (by decide) (by decide)))
  have E_y1 := E_y1.wr W2
  have F_m := F_m.same W2
  have K := K.wr W2 (Or.inl (List.mem_of_getElem? (i := 0) rfl))
  have hs0 := K.1
  have N2 := Fr.snoc X2 N0 g_oa
  have O := O.wr W2 g_oa
  have Z0 : n0 ≤ h2.size := Nat.le_trans Z0 (Keep.of_wr W2).1
  refine own_st (V := T2.setTop (mkF m 10 #[.val (.ref oa), .val (.ref y1)] [])) st2 ?_
  refine own_st (V := T2.setTop (mkF m 11 #[.val (.ref oa), .val (.ref y1)] [(.ref oa)])) (fun _ hk => XS.aloadN X2.here hx rfl (hb hby d23_10) rfl rfl hk) ?_
  refine own_st (V := T2.setTop (mkF m 12 #[.val (.ref oa), .val (.ref y1)] [(.ref y1), (.ref oa)])) (fun _ hk => XS.aloadN X2.here hx rfl (hb hby d23_11) rfl rfl hk) ?_
  refine own_st (V := T2.setTop (mkF m 13 #[.val (.ref oa), .val (.ref y1)] [(.ref oa), (.ref y1), (.ref oa)])) (fun _ hk => XS.aloadN X2.here hx rfl (hb hby d23_12) rfl rfl hk) ?_
  obtain ⟨T3, X3, e3, st3⟩ := getF X2 hx hZ hown (host := "") (Or.inl (hw _ (List.mem_of_getElem? (i := 119) rfl))) Via.refl e2 F_e (g := (mkF m 13 #[.val (.ref oa), .val (.ref y1)] [(.ref oa), (.ref y1), (.ref oa)])) rfl rfl (hb hby d23_13)
  refine own_st (V := T3.setTop (mkF m 16 #[.val (.ref oa), .val (.ref y1)] [(.ref dc), (.ref y1), (.ref oa)])) st3 ?_
  refine own_st (V := T3.setTop (mkF m 17 #[.val (.ref oa), .val (.ref y1)] [(.ref oa), (.ref dc), (.ref y1), (.ref oa)])) (fun _ hk => XS.aloadN X3.here hx rfl (hb hby d23_16) rfl rfl hk) ?_
  obtain ⟨T4, X4, e4, st4⟩ := getF X3 hx hZ hown (host := "") (Or.inl (hw _ (List.mem_of_getElem? (i := 151) rfl))) Via.refl e3 F_z (g := (mkF m 17 #[.val (.ref oa), .val (.ref y1)] [(.ref oa), (.ref dc), (.ref y1), (.ref oa)])) rfl rfl (hb hby d23_17)
  refine own_st (V := T4.setTop (mkF m 20 #[.val (.ref oa), .val (.ref y1)] [(.int (0 : Int32)), (.ref dc), (.ref y1), (.ref oa)])) st4 ?_
  obtain ⟨cq5, q5, qq5⟩ := E_a.cell
  obtain ⟨_, _, ⟨T5, L5, k5, n5⟩, -, X5, ⟨Lc5, hQ5, l5, y5, z5⟩, st5⟩ := X4.privateBack hx (y := (⟨"java/util/ArrayList", "add", "(Ljava/lang/Object;[Ljava/lang/Object;I)V"⟩ : MethodName)) hown (mvT hZ (hw _ (List.mem_of_getElem? (i := 187) rfl))) (mvT hZ (hw _ (List.mem_of_getElem? (i := 188) rfl))) (mvT hZ (hw _ (List.mem_of_getElem? (i := 190) rfl))) (Cond.privateMethod_at (mvP hZ (hw _ (List.mem_of_getElem? (i := 189) rfl)) (args := #[]))) (mvT hZ (hw _ (List.mem_of_getElem? (i := 191) rfl))) (by decide) (backOf (W := 0) (rm_add3a l Z a0 hw [] oa y1 (1 : Int32) dc el ea em mr kd ke h2 n0 Z0 O hT E_a F_m F_e F_z g_oa E_y1) hZ (hw _ (List.mem_of_getElem? (i := 191) rfl)) (hw _ (List.mem_of_getElem? (i := 99) rfl)) (by decide) (by decide)) (g := (mkF m 20 #[.val (.ref oa), .val (.ref y1)] [(.int (0 : Int32)), (.ref dc), (.ref y1), (.ref oa)])) rfl (by rw [hml]; rfl) (Steps.refl _) (a := oa) (by rw [e4]; exact q5) qq5 (argsL := [(.ref y1), (.ref dc), (.int (0 : Int32))]) (rest := []) (lenOf own_pd11 rfl) rfl (by show 2 * 0 + _ ≤ _; exact Nat.le_of_eq rfl) (hb hby d23_20) (fun _ _ => ⟨rfl, e4, (by decide : 0 + 1 ≤ _), (by decide : 0 + 10 ≤ _)⟩)
  dsimp only [Pt.U, Pt.locs, Pt.cells, Pt.slots] at X5 l5 y5 z5 st5 hQ5
  subst l5 y5 z5
  obtain ⟨t, kt, rfl, N5q, Kc, szt, G_m, G_e, G_z, V_t, Ov, E_t⟩ := hQ5
  have N5 := Fr.app N2 N5q
  refine own_tr (V := T5.setTop (mkF m 23 #[.val (.ref oa), .val (.ref y1)] [])) st5 ?_
  have E_a := E_a.keep Kc
  have E_y1 := E_y1.keep Kc
  have Z0 : n0 ≤ T5.heap.size := Nat.le_trans Z0 Kc.1
  have O := O.keep Kc (allS g_oa all0)
  have K := K.trans Kc (allS (Or.inl (List.mem_of_getElem? (i := 0) rfl)) all0)
  have szt : h0.size ≤ t := Nat.le_trans hs0 szt
  refine own_st (V := T5.setTop (mkF m 24 #[.val (.ref oa), .val (.ref y1)] [(.int (1 : Int32))])) (fun _ hk => XS.iconst X5.here hx rfl (hb hby d23_23) hk) ?_
  exact own_retN X5 hx Bd.notSynchronized Bd.returns rfl (by simp) (hb hby d23_24) (by decide) (by decide) (fun U hU hE => hF _ _ ⟨_, _, rfl, (by rw [hU]; exact ⟨_, _, rfl, N5, K, szt, G_m, G_e, G_z, V_t, Ov, E_t⟩), hE⟩)
theorem own_ef_addB (m : MethodId) (x0 : Addr) (x1 : Addr) : entryFrame m #[(.ref x0), (.ref x1)] 2 = mkF m 0 #[.val (.ref x0), .val (.ref x1)] [] := by first | (simp [entryFrame, mkF, argsToLocals, Value.category]; done) | rfl
def Q_addB (Z : State) (oa t y1 y2 : Addr) (kt : ClassId) (h0 : Heap) (n0 : Nat) (v : Option Value) (h : Heap) (L : List Loc) : Prop := v = some (.int 1) ∧ Fr n0 L ∧ Keep h0 h [oa, t] ∧ Fld Z h oa "java/util/AbstractList" "modCount" "I" (.int 2) ∧ Fld Z h oa "java/util/ArrayList" "elementData" "[Ljava/lang/Object;" (.ref t) ∧ Fld Z h oa "java/util/ArrayList" "size" "I" (.int 2) ∧ Arv Z h t kt (.object "java/lang/Object") (10 : Int32) [(.ref y1), (.ref y2), .null, .null, .null, .null, .null, .null, .null, .null] .null
set_option maxRecDepth 65536 in
set_option maxHeartbeats 40000000 in
theorem rm_addB (l : Launch) (Z : State) (a0 : Array Value) (hw : ∀ d ∈ tables_1, d.before a0 Z = true) (ws : List Jvm.Cond) (oa t y1 y2 : Addr) (kt : ClassId) (h0 : Heap) (n0 : Nat) (Z0 : n0 ≤ h0.size) (O : Old Z n0 h0) (E_a : Exa Z h0 oa "java/util/ArrayList") (F_m : Fld Z h0 oa "java/util/AbstractList" "modCount" "I" (.int 1)) (F_e : Fld Z h0 oa "java/util/ArrayList" "elementData" "[Ljava/lang/Object;" (.ref t)) (F_z : Fld Z h0 oa "java/util/ArrayList" "size" "I" (.int 1)) (g_oa : n0 ≤ oa) (V_t : Arv Z h0 t kt (.object "java/lang/Object") (10 : Int32) [(.ref y1), .null, .null, .null, .null, .null, .null, .null, .null, .null] .null) (Ov : Ovr Z kt "java/lang/Object") (E_t : Exa Z h0 t "[Ljava/lang/Object;") (g_t : n0 ≤ t) (ne_oa_t : oa ≠ t) (E_y2 : Exa Z h0 y2 "com/example/vestline/vestline/service/SetAside") :
    MetFree l (⟨"java/util/ArrayList", "add", "(Ljava/lang/Object;)Z"⟩ : MethodName) (head1 (Jvm.Cond.code (⟨"java/util/ArrayList", "add", "(Ljava/lang/Object;)Z"⟩ : MethodName) jdk_38_method_25_code 2 (some .boolean) :: ws) ({ frames := 1, cells := 0, slots := 0, locals := 15 } : Room)) (fun a U => a = #[(.ref oa), (.ref y2)] ∧ Z.Warmed39 U.vm ∧ U.heap = h0) (fun _ _ _ _ _ => True) (fun _ U o U' => ∃ v L, o = .returned v ∧ Q_addB Z oa t y1 y2 kt h0 n0 v U'.heap L ∧ FrameEnd U o U' L ({ frames := 1, cells := 0, slots := 0, locals := 15 } : Room).cells ({ frames := 1, cells := 0, slots := 0, locals := 15 } : Room).slots) := by
  refine MetFree.of_bodySF (plainFor_of_name own_pn_java_util_ArrayList) hisR ?_
  intro p e s m args below meth c s₁ Bd hml0 hP hK
  obtain ⟨rfl, hZ, hh⟩ := hP
  have hx := Bd.exec
  have hby := Bd.bytes
  have hml : c.maxLocals = 2 := hml0
  have hown : s.vm.findClass "java/util/ArrayList" = some m.cls := findClass_of_methodNamed Bd.named
  have hnm := (name_of_methodNamed Bd.named Bd.method).1
  have X0 : Stand p l e ({ frames := 1, cells := 0, slots := 0, locals := 15 } : Room) s m #[(.ref oa), (.ref y2)] below meth c s₁ [] 0 0 := Stand.of_body Bd
  have e0 : s₁.heap = h0 := by rw [← hh, Bd.state]; rfl
  have N0 := Fr.nil n0
  refine own_start (F0 := fun o U' => ∃ v L, o = .returned v ∧ Q_addB Z oa t y1 y2 kt h0 n0 v U'.heap L ∧ FrameEnd s o U' L ({ frames := 1, cells := 0, slots := 0, locals := 15 } : Room).cells ({ frames := 1, cells := 0, slots := 0, locals := 15 } : Room).slots) fun F hF => ?_
  rw [own_ef_addB m oa y2]
  have ne_t_oa := Ne.symm ne_oa_t
  have K := Keep.refl h0 [oa, t]
  refine own_st (V := s₁.setTop (mkF m 1 #[.val (.ref oa), .val (.ref y2)] [(.ref oa)])) (fun _ hk => XS.aloadN X0.here hx rfl (hb hby d23_0) rfl rfl hk) ?_
  refine own_st (V := s₁.setTop (mkF m 2 #[.val (.ref oa), .val (.ref y2)] [(.ref oa), (.ref oa)])) (fun _ hk => XS.dup X0.here hx rfl (hb hby d23_1) rfl rfl hk) ?_
  obtain ⟨T1, X1, e1, st1⟩ := getF X0 hx hZ hown (host := "") (Or.inl (hw _ (List.mem_of_getElem? (i := 185) rfl))) (Via.of (hw _ (List.mem_of_getElem? (i := 186) rfl))) e0 F_m (g := (mkF m 2 #[.val (.ref oa), .val (.ref y2)] [(.ref oa), (.ref oa)])) rfl rfl (hb hby d23_2)
  refine own_st (V := T1.setTop (mkF m 5 #[.val (.ref oa), .val (.ref y2)] [(.int (1 : Int32)), (.ref oa)])) st1 ?_
  refine own_st (V := T1.setTop (mkF m 6 #[.val (.ref oa), .val (.ref y2)] [(.int (1 : Int32)), (.int (1 : Int32)), (.ref oa)])) (fun _ hk => XS.iconst X1.here hx rfl (hb hby d23_5) hk) ?_
  refine own_st (V := T1.setTop (mkF m 7 #[.val (.ref oa), .val (.ref y2)] [(.int ((1 : Int32) + (1 : Int32))), (.ref oa)])) (fun _ hk => XS.iadd X1.here hx rfl (hb hby d23_6) rfl hk) ?_
  obtain ⟨T2, h2, X2, e2, W2, st2⟩ := putF X1 hx hZ hown (host := "") (Or.inl (hw _ (List.mem_of_getElem? (i := 185) rfl))) (Via.of (hw _ (List.mem_of_getElem? (i := 186) rfl))) e1 F_m E_a (Or.inl (hw _ (List.mem_of_getElem? (i := 117) rfl))) (hw _ (List.mem_of_getElem? (i := 98) rfl)) (ty := .int) (by decide) rfl rfl (g := (mkF m 7 #[.val (.ref oa), .val (.ref y2)] [(.int ((1 : Int32) + (1 : Int32))), (.ref oa)])) rfl rfl (hb hby d23_7)
  have E_a := E_a.wr W2
  have F_e := F_e.other W2 (Or.inr (slot_ne (Or.inl (hw _ (List.mem_of_getElem? (i := 120) rfl))) (Or.inl (hw _ (List.mem_of_getElem? (i := 117) rfl))) (by decide) (t := (.array (.object "java/lang/Object"))) (t' := .int) (by decide) (by decide)))
  have F_z := F_z.other W2 (Or.inr (slot_ne (Or.inl (hw _ (List.mem_of_getElem? (i := 152) rfl))) (Or.inl (hw _ (List.mem_of_getElem? (i := 117) rfl))) (by decide) (t := .int) (t' := .int) (by decide) (by decide)))
  have V_t := V_t.other W2 ne_t_oa
  have E_t := E_t.wr W2
  have E_y2 := E_y2.wr W2
  have F_m := F_m.same W2
  have K := K.wr W2 (Or.inl (List.mem_of_getElem? (i := 0) rfl))
  have N2 := Fr.snoc X2 N0 g_oa
  have O := O.wr W2 g_oa
  have Z0 : n0 ≤ h2.size := Nat.le_trans Z0 (Keep.of_wr W2).1
  refine own_st (V := T2.setTop (mkF m 10 #[.val (.ref oa), .val (.ref y2)] [])) st2 ?_
  refine own_st (V := T2.setTop (mkF m 11 #[.val (.ref oa), .val (.ref y2)] [(.ref oa)])) (fun _ hk => XS.aloadN X2.here hx rfl (hb hby d23_10) rfl rfl hk) ?_
  refine own_st (V := T2.setTop (mkF m 12 #[.val (.ref oa), .val (.ref y2)] [(.ref y2), (.ref oa)])) (fun _ hk => XS.aloadN X2.here hx rfl (hb hby d23_11) rfl rfl hk) ?_
  refine own_st (V := T2.setTop (mkF m 13 #[.val (.ref oa), .val (.ref y2)] [(.ref oa), (.ref y2), (.ref oa)])) (fun _ hk => XS.aloadN X2.here hx rfl (hb hby d23_12) rfl rfl hk) ?_
  obtain ⟨T3, X3, e3, st3⟩ := getF X2 hx hZ hown (host := "") (Or.inl (hw _ (List.mem_of_getElem? (i := 119) rfl))) Via.refl e2 F_e (g := (mkF m 13 #[.val (.ref oa), .val (.ref y2)] [(.ref oa), (.ref y2), (.ref oa)])) rfl rfl (hb hby d23_13)
  refine own_st (V := T3.setTop (mkF m 16 #[.val (.ref oa), .val (.ref y2)] [(.ref t), (.ref y2), (.ref oa)])) st3 ?_
  refine own_st (V := T3.setTop (mkF m 17 #[.val (.ref oa), .val (.ref y2)] [(.ref oa), (.ref t), (.ref y2), (.ref oa)])) (fun _ hk => XS.aloadN X3.here hx rfl (hb hby d23_16) rfl rfl hk) ?_
  obtain ⟨T4, X4, e4, st4⟩ := getF X3 hx hZ hown (host := "") (Or.inl (hw _ (List.mem_of_getElem? (i := 151) rfl))) Via.refl e3 F_z (g := (mkF m 17 #[.val (.ref oa), .val (.ref y2)] [(.ref oa), (.ref t), (.ref y2), (.ref oa)])) rfl rfl (hb hby d23_17)
  refine own_st (V := T4.setTop (mkF m 20 #[.val (.ref oa), .val (.ref y2)] [(.int (1 : Int32)), (.ref t), (.ref y2), (.ref oa)])) st4 ?_
  obtain ⟨cq5, q5, qq5⟩ := E_a.cell
  obtain ⟨_, _, ⟨T5, L5, k5, n5⟩, -, X5, ⟨Lc5, hQ5, l5, y5, z5⟩, st5⟩ := X4.privateBack hx (y := (⟨"java/util/ArrayList", "add", "(Ljava/lang/Object;[Ljava/lang/Object;I)V"⟩ : MethodName)) hown (mvT hZ (hw _ (List.mem_of_getElem? (i := 187) rfl))) (mvT hZ (hw _ (List.mem_of_getElem? (i := 188) rfl))) (mvT hZ (hw _ (List.mem_of_getElem? (i := 190) rfl))) (Cond.privateMethod_at (mvP hZ (hw _ (List.mem_of_getElem? (i := 189) rfl)) (args := #[]))) (mvT hZ (hw _ (List.mem_of_getElem? (i := 191) rfl))) (by decide) (backOf (W := 0) (rm_add3b l Z a0 hw [] oa t y1 y2 kt (2 : Int32) h2 n0 Z0 O E_a F_m F_e F_z g_oa V_t Ov E_t g_t ne_oa_t E_y2) hZ (hw _ (List.mem_of_getElem? (i := 191) rfl)) (hw _ (List.mem_of_getElem? (i := 99) rfl)) (by decide) (by decide)) (g := (mkF m 20 #[.val (.ref oa), .val (.ref y2)] [(.int (1 : Int32)), (.ref t), (.ref y2), (.ref oa)])) rfl (by rw [hml]; rfl) (Steps.refl _) (a := oa) (by rw [e4]; exact q5) qq5 (argsL := [(.ref y2), (.ref t), (.int (1 : Int32))]) (rest := []) (lenOf own_pd11 rfl) rfl (by show 2 * 0 + _ ≤ _; exact Nat.le_of_eq rfl) (hb hby d23_20) (fun _ _ => ⟨rfl, e4, (by decide : 0 + 0 ≤ _), (by decide : 0 + 0 ≤ _)⟩)
  dsimp only [Pt.U, Pt.locs, Pt.cells, Pt.slots] at X5 l5 y5 z5 st5 hQ5
  subst l5 y5 z5
  obtain ⟨rfl, N5q, Kc, G_m, G_e, G_z, W_t⟩ := hQ5
  have N5 := Fr.app N2 N5q
  refine own_tr (V := T5.setTop (mkF m 23 #[.val (.ref oa), .val (.ref y2)] [])) st5 ?_
  have E_a := E_a.keep Kc
  have E_t := E_t.keep Kc
  have E_y2 := E_y2.keep Kc
  have Z0 : n0 ≤ T5.heap.size := Nat.le_trans Z0 Kc.1
  have O := O.keep Kc (allS g_oa (allS g_t all0))
  have K := K.trans Kc (allS (Or.inl (List.mem_of_getElem? (i := 0) rfl)) (allS (Or.inl (List.mem_of_getElem? (i := 1) rfl)) all0))
  refine own_st (V := T5.setTop (mkF m 24 #[.val (.ref oa), .val (.ref y2)] [(.int (1 : Int32))])) (fun _ hk => XS.iconst X5.here hx rfl (hb hby d23_23) hk) ?_
  exact own_retN X5 hx Bd.notSynchronized Bd.returns rfl (by simp) (hb hby d23_24) (by decide) (by decide) (fun U hU hE => hF _ _ ⟨_, _, rfl, (by rw [hU]; exact ⟨rfl, N5, K, G_m, G_e, G_z, W_t⟩), hE⟩)
theorem d30_0 : decode jdk_65_method_120_code 0 = .ok (.aload_n 2, 1) := by decide +kernel
theorem d30_1 : decode jdk_65_method_120_code 1 = .ok (.ldc 110, 2) := by decide +kernel
theorem d30_3 : decode jdk_65_method_120_code 3 = .ok (.if_acmp .ne 10, 3) := by decide +kernel
theorem d30_6 : decode jdk_65_method_120_code 6 = .ok (.iload_n 1, 1) := by decide +kernel
theorem d30_7 : decode jdk_65_method_120_code 7 = .ok (.anewarray 2, 3) := by decide +kernel
theorem d30_10 : decode jdk_65_method_120_code 10 = .ok (.goto 14, 3) := by decide +kernel
theorem d30_24 : decode jdk_65_method_120_code 24 = .ok (.astore_n 3, 1) := by decide +kernel
theorem d30_25 : decode jdk_65_method_120_code 25 = .ok (.aload_n 0, 1) := by decide +kernel
theorem d30_26 : decode jdk_65_method_120_code 26 = .ok (.iconst 0, 1) := by decide +kernel
theorem d30_27 : decode jdk_65_method_120_code 27 = .ok (.aload_n 3, 1) := by decide +kernel
theorem d30_28 : decode jdk_65_method_120_code 28 = .ok (.iconst 0, 1) := by decide +kernel
theorem d30_29 : decode jdk_65_method_120_code 29 = .ok (.aload_n 0, 1) := by decide +kernel
theorem d30_30 : decode jdk_65_method_120_code 30 = .ok (.arraylength, 1) := by decide +kernel
theorem d30_31 : decode jdk_65_method_120_code 31 = .ok (.iload_n 1, 1) := by decide +kernel
theorem d30_32 : decode jdk_65_method_120_code 32 = .ok (.invokestatic 304, 3) := by decide +kernel
theorem d30_35 : decode jdk_65_method_120_code 35 = .ok (.invokestatic 150, 3) := by decide +kernel
theorem d30_38 : decode jdk_65_method_120_code 38 = .ok (.aload_n 3, 1) := by decide +kernel
theorem d30_39 : decode jdk_65_method_120_code 39 = .ok (.areturn, 1) := by decide +kernel
theorem own_pn_java_util_Arrays : plainName "java/util/Arrays" = true := by first | (simp [plainName, overriddenIn]; done) | decide +kernel
theorem own_ef_copy3_1 (m : MethodId) (x0 : Addr) (x1 : Int32) (x2 : Addr) : entryFrame m #[(.ref x0), (.int x1), (.ref x2)] 4 = mkF m 0 #[.val (.ref x0), .val (.int x1), .val (.ref x2), .unset] [] := by first | (simp [entryFrame, mkF, argsToLocals, Value.category]; done) | rfl
def Q_copy3_1 (Z : State) (t mr y1 : Addr) (kt : ClassId) (h0 : Heap) (n0 : Nat) (v : Option Value) (h : Heap) (L : List Loc) : Prop := ∃ (r : Addr) (kr : ClassId), v = some (.ref r) ∧ Fr n0 L ∧ Keep h0 h [] ∧ Arv Z h r kr (.object "java/lang/Object") (1 : Int32) [(.ref y1)] .null
set_option maxRecDepth 65536 in
set_option maxHeartbeats 40000000 in
theorem rm_copy3_1 (l : Launch) (Z : State) (a0 : Array Value) (hw : ∀ d ∈ tables_1, d.before a0 Z = true) (ws : List Jvm.Cond) (t mr y1 : Addr) (kt : ClassId) (h0 : Heap) (n0 : Nat) (Z0 : n0 ≤ h0.size) (O : Old Z n0 h0) (V_t : Arv Z h0 t kt (.object "java/lang/Object") (10 : Int32) [(.ref y1), .null, .null, .null, .null, .null, .null, .null, .null, .null] .null) (hM : Mir Z "[Ljava/lang/Object;" mr) (E_y1 : Exa Z h0 y1 "com/example/vestline/vestline/service/SetAside") :
    MetFree l (⟨"java/util/Arrays", "copyOf", "([Ljava/lang/Object;ILjava/lang/Class;)[Ljava/lang/Object;"⟩ : MethodName) (head1 (Jvm.Cond.code (⟨"java/util/Arrays", "copyOf", "([Ljava/lang/Object;ILjava/lang/Class;)[Ljava/lang/Object;"⟩ : MethodName) jdk_65_method_120_code 4 (some (.array (.object "java/lang/Object"))) :: ws) ({ frames := 1, cells := 1, slots := 1, locals := 18 } : Room)) (fun a U => a = #[(.ref t), (.int (1 : Int32)), (.ref mr)] ∧ Z.Warmed39 U.vm ∧ U.heap = h0) (fun _ _ _ _ _ => True) (fun _ U o U' => ∃ v L, o = .returned v ∧ Q_copy3_1 Z t mr y1 kt h0 n0 v U'.heap L ∧ FrameEnd U o U' L ({ frames := 1, cells := 1, slots := 1, locals := 18 } : Room).cells ({ frames := 1, cells := 1, slots := 1, locals := 18 } : Room).slots) := by
  refine MetFree.of_bodySF (plainFor_of_name own_pn_java_util_Arrays) hisR ?_
  intro p e s m args below meth c s₁ Bd hml0 hP hK
  obtain ⟨rfl, hZ, hh⟩ := hP
  have hx := Bd.exec
  have hby := Bd.bytes
  have hml : c.maxLocals = 4 := hml0
  have hown : s.vm.findClass "java/util/Arrays" = some m.cls := findClass_of_methodNamed Bd.named
  have hnm := (name_of_methodNamed Bd.named Bd.method).1
  have X0 : Stand p l e ({ frames := 1, cells := 1, slots := 1, locals := 18 } : Room) s m #[(.ref t), (.int (1 : Int32)), (.ref mr)] below meth c s₁ [] 0 0 := Stand.of_body Bd
  have e0 : s₁.heap = h0 := by rw [← hh, Bd.state]; rfl
  have N0 := Fr.nil n0
  refine own_start (F0 := fun o U' => ∃ v L, o = .returned v ∧ Q_copy3_1 Z t mr y1 kt h0 n0 v U'.heap L ∧ FrameEnd s o U' L ({ frames := 1, cells := 1, slots := 1, locals := 18 } : Room).cells ({ frames := 1, cells := 1, slots := 1, locals := 18 } : Room).slots) fun F hF => ?_
  rw [own_ef_copy3_1 m t (1 : Int32) mr]
  have K := Keep.refl h0 []
  refine own_st (V := s₁.setTop (mkF m 1 #[.val (.ref t), .val (.int (1 : Int32)), .val (.ref mr), .unset] [(.ref mr)])) (fun _ hk => XS.aloadN X0.here hx rfl (hb hby d30_0) rfl rfl hk) ?_
  obtain ⟨T1, X1, e1, st1⟩ := own_ldcM X0 hx hZ hown (hw _ (List.mem_of_getElem? (i := 230) rfl)) e0 hM (g := (mkF m 1 #[.val (.ref t), .val (.int (1 : Int32)), .val (.ref mr), .unset] [(.ref mr)])) rfl (hb hby d30_1)
  refine own_st (V := T1.setTop (mkF m 3 #[.val (.ref t), .val (.int (1 : Int32)), .val (.ref mr), .unset] [(.ref mr), (.ref mr)])) st1 ?_
  refine own_st (V := T1.setTop (mkF m 6 #[.val (.ref t), .val (.int (1 : Int32)), .val (.ref mr), .unset] [])) (fun _ hk => Jvm.RoadKit.acmp (g := (mkF m 3 #[.val (.ref t), .val (.int (1 : Int32)), .val (.ref mr), .unset] [(.ref mr), (.ref mr)])) X1 hx rfl rfl rfl (pc0 := 3) (pc' := 6) (same := true) rfl (hb hby d30_3) rfl (decide_eq_true rfl) (by decide) (by decide) hk) ?_
  refine own_st (V := T1.setTop (mkF m 7 #[.val (.ref t), .val (.int (1 : Int32)), .val (.ref mr), .unset] [(.int (1 : Int32))])) (fun _ hk => XS.iloadN X1.here hx rfl (hb hby d30_6) rfl  hk) ?_
  obtain ⟨T2, h2, k2, X2, e2, E2, A2, Ex2, Ov2, st2⟩ := newRE X1 hx hZ hown (hw _ (List.mem_of_getElem? (i := 231) rfl)) (hw _ (List.mem_of_getElem? (i := 207) rfl)) e1 (g := (mkF m 7 #[.val (.ref t), .val (.int (1 : Int32)), .val (.ref mr), .unset] [(.int (1 : Int32))])) rfl (hb hby d30_7) rfl (by decide) (cap := 1) (by decide) (by decide) (by decide) (by decide) (ad := "[Ljava/lang/Object;") (by decide)
  obtain ⟨b2, g2⟩ : ∃ z, z = h0.size := ⟨_, rfl⟩
  rw [← g2] at A2 Ex2 st2
  have ne_t_b2 : t ≠ b2 := Nat.ne_of_lt (Nat.lt_of_lt_of_le V_t.lt (Nat.le_of_eq g2.symm))
  have ne_b2_t : b2 ≠ t := Ne.symm ne_t_b2
  have ne_y1_b2 : y1 ≠ b2 := Nat.ne_of_lt (Nat.lt_of_lt_of_le E_y1.lt (Nat.le_of_eq g2.symm))
  have ne_b2_y1 : b2 ≠ y1 := Ne.symm ne_y1_b2
  have g_b2 : n0 ≤ b2 := Nat.le_trans Z0 (Nat.le_of_eq g2.symm)
  have sz_b2 : h0.size ≤ b2 := Nat.le_trans K.1 (Nat.le_of_eq g2.symm)
  have V_t := V_t.ext E2
  have E_y1 := E_y1.ext E2
  have O := O.ext E2
  have K := K.ext E2
  have Z0 : n0 ≤ h2.size := Nat.le_trans Z0 E2.1
  have V_b2 : Arv Z h2 b2 k2 (.object "java/lang/Object") (1 : Int32) [.null] .null := (Arv.new A2 (by decide)).pad (pad_rep [] .null 1)
  have E_b2 := Ex2
  refine own_st (V := T2.setTop (mkF m 10 #[.val (.ref t), .val (.int (1 : Int32)), .val (.ref mr), .unset] [(.ref b2)])) st2 ?_
  refine own_st (V := T2.setTop (mkF m 24 #[.val (.ref t), .val (.int (1 : Int32)), .val (.ref mr), .unset] [(.ref b2)])) (fun _ hk => XS.goto X2.here hx rfl (pc0 := 10) (pc' := 24) rfl (hb hby d30_10) (by decide) (by decide) hk) ?_
  refine own_st (V := T2.setTop (mkF m 25 #[.val (.ref t), .val (.int (1 : Int32)), .val (.ref mr), .val (.ref b2)] [])) (fun _ hk => XS.astoreN X2.here hx rfl (hb hby d30_24) rfl rfl (l' := #[.val (.ref t), .val (.int (1 : Int32)), .val (.ref mr), .val (.ref b2)]) rfl hk) ?_
  refine own_st (V := T2.setTop (mkF m 26 #[.val (.ref t), .val (.int (1 : Int32)), .val (.ref mr), .val (.ref b2)] [(.ref t)])) (fun _ hk => XS.aloadN X2.here hx rfl (hb hby d30_25) rfl rfl hk) ?_
  refine own_st (V := T2.setTop (mkF m 27 #[.val (.ref t), .val (.int (1 : Int32)), .val (.ref mr), .val (.ref b2)] [(.int (0 : Int32)), (.ref t)])) (fun _ hk => XS.iconst X2.here hx rfl (hb hby d30_26) hk) ?_
  refine own_st (V := T2.setTop (mkF m 28 #[.val (.ref t), .val (.int (1 : Int32)), .val (.ref mr), .val (.ref b2)] [(.ref b2), (.int (0 : Int32)), (.ref t)])) (fun _ hk => XS.aloadN X2.here hx rfl (hb hby d30_27) rfl rfl hk) ?_
  refine own_st (V := T2.setTop (mkF m 29 #[.val (.ref t), .val (.int (1 : Int32)), .val (.ref mr), .val (.ref b2)] [(.int (0 : Int32)), (.ref b2), (.int (0 : Int32)), (.ref t)])) (fun _ hk => XS.iconst X2.here hx rfl (hb hby d30_28) hk) ?_
  refine own_st (V := T2.setTop (mkF m 30 #[.val (.ref t), .val (.int (1 : Int32)), .val (.ref mr), .val (.ref b2)] [(.ref t), (.int (0 : Int32)), (.ref b2), (.int (0 : Int32)), (.ref t)])) (fun _ hk => XS.aloadN X2.here hx rfl (hb hby d30_29) rfl rfl hk) ?_
  obtain ⟨cl3, Ar3, -, Sz3, Ng3, -, -⟩ := (id V_t : _)
  refine own_st (V := T2.setTop (mkF m 31 #[.val (.ref t), .val (.int (1 : Int32)), .val (.ref mr), .val (.ref b2)] [(.int cl3.slots.size.toInt32), (.int (0 : Int32)), (.ref b2), (.int (0 : Int32)), (.ref t)])) (X2.arraylength hx (by rw [e2]; exact Ar3.1) (State.isArrayOf_alike hZ.alike Ar3.2.1) (g := (mkF m 30 #[.val (.ref t), .val (.int (1 : Int32)), .val (.ref mr), .val (.ref b2)] [(.ref t), (.int (0 : Int32)), (.ref b2), (.int (0 : Int32)), (.ref t)])) rfl rfl (hb hby d30_30)) ?_
  rw [len_of Sz3 Ng3]
  refine own_st (V := T2.setTop (mkF m 32 #[.val (.ref t), .val (.int (1 : Int32)), .val (.ref mr), .val (.ref b2)] [(.int (1 : Int32)), (.int (10 : Int32)), (.int (0 : Int32)), (.ref b2), (.int (0 : Int32)), (.ref t)])) (fun _ hk => XS.iloadN X2.here hx rfl (hb hby d30_31) rfl  hk) ?_
  obtain ⟨_, _, ⟨T4, L4, k4, n4⟩, -, X4, ⟨Lc4, hQ4, l4, y4, z4⟩, st4⟩ := Jvm.LawKit.callS X2 hx (y := (⟨"java/lang/Math", "min", "(II)I"⟩ : MethodName)) hown (mvT hZ (hw _ (List.mem_of_getElem? (i := 232) rfl))) (mvT hZ (hw _ (List.mem_of_getElem? (i := 233) rfl))) (mvT hZ (hw _ (List.mem_of_getElem? (i := 204) rfl))) (mvT hZ (hw _ (List.mem_of_getElem? (i := 234) rfl))) (by decide) (backOf (W := 4) (rm_min l Z a0 hw [] (10 : Int32) (1 : Int32) h2 n0 Z0 (by decide)) hZ (hw _ (List.mem_of_getElem? (i := 234) rfl)) (hw _ (List.mem_of_getElem? (i := 204) rfl)) (by decide) (by decide)) (g := (mkF m 32 #[.val (.ref t), .val (.int (1 : Int32)), .val (.ref mr), .val (.ref b2)] [(.int (1 : Int32)), (.int (10 : Int32)), (.int (0 : Int32)), (.ref b2), (.int (0 : Int32)), (.ref t)])) rfl (by rw [hml]; rfl) (argsL := [(.int (10 : Int32)), (.int (1 : Int32))]) (rest := [(.int (0 : Int32)), (.ref b2), (.int (0 : Int32)), (.ref t)]) (lenOf own_pd8 rfl) rfl (by show 2 * 0 + _ ≤ _; exact Nat.le_of_eq rfl) (hb hby d30_32) (fun _ _ => ⟨rfl, e2, (by decide : 1 + 0 ≤ _), (by decide : 1 + 0 ≤ _)⟩)
  dsimp only [Pt.U, Pt.locs, Pt.cells, Pt.slots] at X4 l4 y4 z4 st4 hQ4
  subst l4 y4 z4
  obtain ⟨rfl, N4q, es4⟩ := hQ4
  have N4 := Fr.app N0 N4q
  refine own_st (V := T4.setTop (mkF m 35 #[.val (.ref t), .val (.int (1 : Int32)), .val (.ref mr), .val (.ref b2)] [(.int (1 : Int32)), (.int (0 : Int32)), (.ref b2), (.int (0 : Int32)), (.ref t)])) st4 ?_
  obtain ⟨T5, h5, L5, X5, e5, N5, Kp5, Vp5, st5⟩ := cpA X4 hx hZ hown (hw _ (List.mem_of_getElem? (i := 235) rfl)) (hw _ (List.mem_of_getElem? (i := 238) rfl)) (hw _ (List.mem_of_getElem? (i := 236) rfl)) (hw _ (List.mem_of_getElem? (i := 237) rfl)) es4 V_t V_b2 (us := [(.ref y1)]) (Or.inr ⟨rfl, rfl, ⟨own_sto V_b2 Ov2 (Ins.of_exa E_y1 (hw _ (List.mem_of_getElem? (i := 208) rfl))), trivial⟩⟩) (sp := (0 : Int32)) (dp := (0 : Int32)) (nn := (1 : Int32)) (by decide) (by decide) (by decide) (by decide) (by decide) rfl (by decide) N4 g_b2 (g := (mkF m 35 #[.val (.ref t), .val (.int (1 : Int32)), .val (.ref mr), .val (.ref b2)] [(.int (1 : Int32)), (.int (0 : Int32)), (.ref b2), (.int (0 : Int32)), (.ref t)])) rfl (by rw [hml]; rfl) (rest := []) rfl (hb hby d30_35) (by decide) (W := 0) (by show 2 * 0 + _ ≤ _; exact Nat.le_of_eq rfl) (by decide +kernel)
  have V_t := V_t.keep Kp5 (ninS ne_t_b2 nin0)
  have E_y1 := E_y1.keep Kp5
  have E_b2 := E_b2.keep Kp5
  have V_b2 : Arv Z h5 b2 k2 (.object "java/lang/Object") (1 : Int32) [(.ref y1)] .null := Vp5
  have Z0 : n0 ≤ h5.size := Nat.le_trans Z0 Kp5.1
  have O := O.keep Kp5 (allS g_b2 all0)
  have K := K.trans Kp5 (allS (Or.inr sz_b2) all0)
  refine own_st (V := T5.setTop (mkF m 38 #[.val (.ref t), .val (.int (1 : Int32)), .val (.ref mr), .val (.ref b2)] [])) st5 ?_
  refine own_st (V := T5.setTop (mkF m 39 #[.val (.ref t), .val (.int (1 : Int32)), .val (.ref mr), .val (.ref b2)] [(.ref b2)])) (fun _ hk => XS.aloadN X5.here hx rfl (hb hby d30_38) rfl rfl hk) ?_
  exact own_retA X5 hx Bd.notSynchronized Bd.returns rfl rfl (hb hby d30_39) (by decide) (by decide) (fun U hU hE => hF _ _ ⟨_, _, rfl, (by rw [hU, e5]; exact ⟨_, _, rfl, N5, K, V_b2⟩), hE⟩)
theorem d29_0 : decode jdk_65_method_119_code 0 = .ok (.aload_n 0, 1) := by decide +kernel
theorem d29_1 : decode jdk_65_method_119_code 1 = .ok (.iload_n 1, 1) := by decide +kernel
theorem d29_2 : decode jdk_65_method_119_code 2 = .ok (.aload_n 0, 1) := by decide +kernel
theorem d29_3 : decode jdk_65_method_119_code 3 = .ok (.invokevirtual 86, 3) := by decide +kernel
theorem d29_6 : decode jdk_65_method_119_code 6 = .ok (.invokestatic 300, 3) := by decide +kernel
theorem own_pd12 : parseMethodDescriptor "([Ljava/lang/Object;ILjava/lang/Class;)[Ljava/lang/Object;" = some ⟨[(.array (.object "java/lang/Object")), .int, (.object "java/lang/Class")], some (.array (.object "java/lang/Object"))⟩ := by decide +kernel
theorem d29_9 : decode jdk_65_method_119_code 9 = .ok (.areturn, 1) := by decide +kernel
theorem own_ef_copy2_1 (m : MethodId) (x0 : Addr) (x1 : Int32) : entryFrame m #[(.ref x0), (.int x1)] 2 = mkF m 0 #[.val (.ref x0), .val (.int x1)] [] := by first | (simp [entryFrame, mkF, argsToLocals, Value.category]; done) | rfl
def Q_copy2_1 (Z : State) (t mr y1 : Addr) (kt : ClassId) (h0 : Heap) (n0 : Nat) (v : Option Value) (h : Heap) (L : List Loc) : Prop := ∃ (r : Addr) (kr : ClassId), v = some (.ref r) ∧ Fr n0 L ∧ Keep h0 h [] ∧ Arv Z h r kr (.object "java/lang/Object") (1 : Int32) [(.ref y1)] .null
set_option maxRecDepth 65536 in
set_option maxHeartbeats 40000000 in
theorem rm_copy2_1 (l : Launch) (Z : State) (a0 : Array Value) (hw : ∀ d ∈ tables_1, d.before a0 Z = true) (ws : List Jvm.Cond) (t mr y1 : Addr) (kt : ClassId) (h0 : Heap) (n0 : Nat) (Z0 : n0 ≤ h0.size) (O : Old Z n0 h0) (V_t : Arv Z h0 t kt (.object "java/lang/Object") (10 : Int32) [(.ref y1), .null, .null, .null, .null, .null, .null, .null, .null, .null] .null) (hM : Mir Z "[Ljava/lang/Object;" mr) (E_y1 : Exa Z h0 y1 "com/example/vestline/vestline/service/SetAside") (E_t : Exa Z h0 t "[Ljava/lang/Object;") :
    MetFree l (⟨"java/util/Arrays", "copyOf", "([Ljava/lang/Object;I)[Ljava/lang/Object;"⟩ : MethodName) (head1 (Jvm.Cond.code (⟨"java/util/Arrays", "copyOf", "([Ljava/lang/Object;I)[Ljava/lang/Object;"⟩ : MethodName) jdk_65_method_119_code 2 (some (.array (.object "java/lang/Object"))) :: ws) ({ frames := 2, cells := 1, slots := 1, locals := 33 } : Room)) (fun a U => a = #[(.ref t), (.int (1 : Int32))] ∧ Z.Warmed39 U.vm ∧ U.heap = h0) (fun _ _ _ _ _ => True) (fun _ U o U' => ∃ v L, o = .returned v ∧ Q_copy2_1 Z t mr y1 kt h0 n0 v U'.heap L ∧ FrameEnd U o U' L ({ frames := 2, cells := 1, slots := 1, locals := 33 } : Room).cells ({ frames := 2, cells := 1, slots := 1, locals := 33 } : Room).slots) := by
  refine MetFree.of_bodySF (plainFor_of_name own_pn_java_util_Arrays) hisR ?_
  intro p e s m args below meth c s₁ Bd hml0 hP hK
  obtain ⟨rfl, hZ, hh⟩ := hP
  have hx := Bd.exec
  have hby := Bd.bytes
  have hml : c.maxLocals = 2 := hml0
  have hown : s.vm.findClass "java/util/Arrays" = some m.cls := findClass_of_methodNamed Bd.named
  have hnm := (name_of_methodNamed Bd.named Bd.method).1
  have X0 : Stand p l e ({ frames := 2, cells := 1, slots := 1, locals := 33 } : Room) s m #[(.ref t), (.int (1 : Int32))] below meth c s₁ [] 0 0 := Stand.of_body Bd
  have e0 : s₁.heap = h0 := by rw [← hh, Bd.state]; rfl
  have N0 := Fr.nil n0
  refine own_start (F0 := fun o U' => ∃ v L, o = .returned v ∧ Q_copy2_1 Z t mr y1 kt h0 n0 v U'.heap L ∧ FrameEnd s o U' L ({ frames := 2, cells := 1, slots := 1, locals := 33 } : Room).cells ({ frames := 2, cells := 1, slots := 1, locals := 33 } : Room).slots) fun F hF => ?_
  rw [own_ef_copy2_1 m t (1 : Int32)]
  have K := Keep.refl h0 []
  refine own_st (V := s₁.setTop (mkF m 1 #[.val (.ref t), .val (.int (1 : Int32))] [(.ref t)])) (fun _ hk => XS.aloadN X0.here hx rfl (hb hby d29_0) rfl rfl hk) ?_
  refine own_st (V := s₁.setTop (mkF m 2 #[.val (.ref t), .val (.int (1 : Int32))] [(.int (1 : Int32)), (.ref t)])) (fun _ hk => XS.iloadN X0.here hx rfl (hb hby d29_1) rfl  hk) ?_
  refine own_st (V := s₁.setTop (mkF m 3 #[.val (.ref t), .val (.int (1 : Int32))] [(.ref t), (.int (1 : Int32)), (.ref t)])) (fun _ hk => XS.aloadN X0.here hx rfl (hb hby d29_2) rfl rfl hk) ?_
  obtain ⟨T1, X1, e1, st1⟩ := gcls X0 hx hZ hown (hw _ (List.mem_of_getElem? (i := 221) rfl)) (hw _ (List.mem_of_getElem? (i := 222) rfl)) (hw _ (List.mem_of_getElem? (i := 140) rfl)) (hw _ (List.mem_of_getElem? (i := 224) rfl)) (hw _ (List.mem_of_getElem? (i := 223) rfl)) (hw _ (List.mem_of_getElem? (i := 225) rfl)) e0 E_t hM (g := (mkF m 3 #[.val (.ref t), .val (.int (1 : Int32))] [(.ref t), (.int (1 : Int32)), (.ref t)])) rfl (by rw [hml]; rfl) rfl (hb hby d29_3) (by decide) (W := 2) (by show 2 * 0 + _ ≤ _; exact Nat.le_of_eq rfl) (by decide +kernel)
  refine own_st (V := T1.setTop (mkF m 6 #[.val (.ref t), .val (.int (1 : Int32))] [(.ref mr), (.int (1 : Int32)), (.ref t)])) st1 ?_
  obtain ⟨_, _, ⟨T2, L2, k2, n2⟩, -, X2, ⟨Lc2, hQ2, l2, y2, z2⟩, st2⟩ := Jvm.LawKit.callS X1 hx (y := (⟨"java/util/Arrays", "copyOf", "([Ljava/lang/Object;ILjava/lang/Class;)[Ljava/lang/Object;"⟩ : MethodName)) hown (mvT hZ (hw _ (List.mem_of_getElem? (i := 227) rfl))) (mvT hZ (hw _ (List.mem_of_getElem? (i := 228) rfl))) (mvT hZ (hw _ (List.mem_of_getElem? (i := 219) rfl))) (mvT hZ (hw _ (List.mem_of_getElem? (i := 229) rfl))) (by decide) (backOf (W := 0) (rm_copy3_1 l Z a0 hw [] t mr y1 kt h0 n0 Z0 O V_t hM E_y1) hZ (hw _ (List.mem_of_getElem? (i := 229) rfl)) (hw _ (List.mem_of_getElem? (i := 219) rfl)) (by decide) (by decide)) (g := (mkF m 6 #[.val (.ref t), .val (.int (1 : Int32))] [(.ref mr), (.int (1 : Int32)), (.ref t)])) rfl (by rw [hml]; rfl) (argsL := [(.ref t), (.int (1 : Int32)), (.ref mr)]) (rest := []) (lenOf own_pd12 rfl) rfl (by show 2 * 0 + _ ≤ _; exact Nat.le_of_eq rfl) (hb hby d29_6) (fun _ _ => ⟨rfl, e1, (by decide : 0 + 1 ≤ _), (by decide : 0 + 1 ≤ _)⟩)
  dsimp only [Pt.U, Pt.locs, Pt.cells, Pt.slots] at X2 l2 y2 z2 st2 hQ2
  subst l2 y2 z2
  obtain ⟨r, kr, rfl, N2q, Kc, V_r⟩ := hQ2
  have N2 := Fr.app N0 N2q
  refine own_st (V := T2.setTop (mkF m 9 #[.val (.ref t), .val (.int (1 : Int32))] [(.ref r)])) st2 ?_
  have V_t := V_t.keep Kc nin0
  have E_y1 := E_y1.keep Kc
  have Z0 : n0 ≤ T2.heap.size := Nat.le_trans Z0 Kc.1
  have O := O.keep Kc all0
  have K := K.trans Kc all0
  exact own_retA X2 hx Bd.notSynchronized Bd.returns rfl rfl (hb hby d29_9) (by decide) (by decide) (fun U hU hE => hF _ _ ⟨_, _, rfl, (by rw [hU]; exact ⟨_, _, rfl, N2, K, V_r⟩), hE⟩)
theorem d28_0 : decode jdk_38_method_16_code 0 = .ok (.aload_n 0, 1) := by decide +kernel
theorem d28_1 : decode jdk_38_method_16_code 1 = .ok (.getfield 9, 3) := by decide +kernel
theorem d28_4 : decode jdk_38_method_16_code 4 = .ok (.aload_n 0, 1) := by decide +kernel
theorem d28_5 : decode jdk_38_method_16_code 5 = .ok (.getfield 48, 3) := by decide +kernel
theorem d28_8 : decode jdk_38_method_16_code 8 = .ok (.invokestatic 66, 3) := by decide +kernel
theorem own_pd13 : parseMethodDescriptor "([Ljava/lang/Object;I)[Ljava/lang/Object;" = some ⟨[(.array (.object "java/lang/Object")), .int], some (.array (.object "java/lang/Object"))⟩ := by decide +kernel
theorem d28_11 : decode jdk_38_method_16_code 11 = .ok (.areturn, 1) := by decide +kernel
theorem own_ef_toArr1 (m : MethodId) (x0 : Addr) : entryFrame m #[(.ref x0)] 1 = mkF m 0 #[.val (.ref x0)] [] := by first | (simp [entryFrame, mkF, argsToLocals, Value.category]; done) | rfl
def Q_toArr1 (Z : State) (oa : Addr) (t mr y1 : Addr) (kt : ClassId) (h0 : Heap) (n0 : Nat) (v : Option Value) (h : Heap) (L : List Loc) : Prop := ∃ (r : Addr) (kr : ClassId), v = some (.ref r) ∧ Fr n0 L ∧ Keep h0 h [] ∧ Arv Z h r kr (.object "java/lang/Object") (1 : Int32) [(.ref y1)] .null
set_option maxRecDepth 65536 in
set_option maxHeartbeats 40000000 in
theorem rm_toArr1 (l : Launch) (Z : State) (a0 : Array Value) (hw : ∀ d ∈ tables_1, d.before a0 Z = true) (ws : List Jvm.Cond) (oa : Addr) (t mr y1 : Addr) (kt : ClassId) (h0 : Heap) (n0 : Nat) (Z0 : n0 ≤ h0.size) (O : Old Z n0 h0) (F_e : Fld Z h0 oa "java/util/ArrayList" "elementData" "[Ljava/lang/Object;" (.ref t)) (F_z : Fld Z h0 oa "java/util/ArrayList" "size" "I" (.int 1)) (V_t : Arv Z h0 t kt (.object "java/lang/Object") (10 : Int32) [(.ref y1), .null, .null, .null, .null, .null, .null, .null, .null, .null] .null) (hM : Mir Z "[Ljava/lang/Object;" mr) (E_y1 : Exa Z h0 y1 "com/example/vestline/vestline/service/SetAside") (E_t : Exa Z h0 t "[Ljava/lang/Object;") :
    MetFree l (⟨"java/util/ArrayList", "toArray", "()[Ljava/lang/Object;"⟩ : MethodName) (head1 (Jvm.Cond.code (⟨"java/util/ArrayList", "toArray", "()[Ljava/lang/Object;"⟩ : MethodName) jdk_38_method_16_code 1 (some (.array (.object "java/lang/Object"))) :: ws) ({ frames := 3, cells := 1, slots := 1, locals := 46 } : Room)) (fun a U => a = #[(.ref oa)] ∧ Z.Warmed39 U.vm ∧ U.heap = h0) (fun _ _ _ _ _ => True) (fun _ U o U' => ∃ v L, o = .returned v ∧ Q_toArr1 Z oa t mr y1 kt h0 n0 v U'.heap L ∧ FrameEnd U o U' L ({ frames := 3, cells := 1, slots := 1, locals := 46 } : Room).cells ({ frames := 3, cells := 1, slots := 1, locals := 46 } : Room).slots) := by
  refine MetFree.of_bodySF (plainFor_of_name own_pn_java_util_ArrayList) hisR ?_
  intro p e s m args below meth c s₁ Bd hml0 hP hK
  obtain ⟨rfl, hZ, hh⟩ := hP
  have hx := Bd.exec
  have hby := Bd.bytes
  have hml : c.maxLocals = 1 := hml0
  have hown : s.vm.findClass "java/util/ArrayList" = some m.cls := findClass_of_methodNamed Bd.named
  have hnm := (name_of_methodNamed Bd.named Bd.method).1
  have X0 : Stand p l e ({ frames := 3, cells := 1, slots := 1, locals := 46 } : Room) s m #[(.ref oa)] below meth c s₁ [] 0 0 := Stand.of_body Bd
  have e0 : s₁.heap = h0 := by rw [← hh, Bd.state]; rfl
  have N0 := Fr.nil n0
  refine own_start (F0 := fun o U' => ∃ v L, o = .returned v ∧ Q_toArr1 Z oa t mr y1 kt h0 n0 v U'.heap L ∧ FrameEnd s o U' L ({ frames := 3, cells := 1, slots := 1, locals := 46 } : Room).cells ({ frames := 3, cells := 1, slots := 1, locals := 46 } : Room).slots) fun F hF => ?_
  rw [own_ef_toArr1 m oa]
  have K := Keep.refl h0 []
  refine own_st (V := s₁.setTop (mkF m 1 #[.val (.ref oa)] [(.ref oa)])) (fun _ hk => XS.aloadN X0.here hx rfl (hb hby d28_0) rfl rfl hk) ?_
  obtain ⟨T1, X1, e1, st1⟩ := getF X0 hx hZ hown (host := "") (Or.inl (hw _ (List.mem_of_getElem? (i := 119) rfl))) Via.refl e0 F_e (g := (mkF m 1 #[.val (.ref oa)] [(.ref oa)])) rfl rfl (hb hby d28_1)
  refine own_st (V := T1.setTop (mkF m 4 #[.val (.ref oa)] [(.ref t)])) st1 ?_
  refine own_st (V := T1.setTop (mkF m 5 #[.val (.ref oa)] [(.ref oa), (.ref t)])) (fun _ hk => XS.aloadN X1.here hx rfl (hb hby d28_4) rfl rfl hk) ?_
  obtain ⟨T2, X2, e2, st2⟩ := getF X1 hx hZ hown (host := "") (Or.inl (hw _ (List.mem_of_getElem? (i := 151) rfl))) Via.refl e1 F_z (g := (mkF m 5 #[.val (.ref oa)] [(.ref oa), (.ref t)])) rfl rfl (hb hby d28_5)
  refine own_st (V := T2.setTop (mkF m 8 #[.val (.ref oa)] [(.int (1 : Int32)), (.ref t)])) st2 ?_
  obtain ⟨_, _, ⟨T3, L3, k3, n3⟩, -, X3, ⟨Lc3, hQ3, l3, y3, z3⟩, st3⟩ := Jvm.LawKit.callS X2 hx (y := (⟨"java/util/Arrays", "copyOf", "([Ljava/lang/Object;I)[Ljava/lang/Object;"⟩ : MethodName)) hown (mvT hZ (hw _ (List.mem_of_getElem? (i := 217) rfl))) (mvT hZ (hw _ (List.mem_of_getElem? (i := 218) rfl))) (mvT hZ (hw _ (List.mem_of_getElem? (i := 219) rfl))) (mvT hZ (hw _ (List.mem_of_getElem? (i := 220) rfl))) (by decide) (backOf (W := 0) (rm_copy2_1 l Z a0 hw [] t mr y1 kt h0 n0 Z0 O V_t hM E_y1 E_t) hZ (hw _ (List.mem_of_getElem? (i := 220) rfl)) (hw _ (List.mem_of_getElem? (i := 219) rfl)) (by decide) (by decide)) (g := (mkF m 8 #[.val (.ref oa)] [(.int (1 : Int32)), (.ref t)])) rfl (by rw [hml]; rfl) (argsL := [(.ref t), (.int (1 : Int32))]) (rest := []) (lenOf own_pd13 rfl) rfl (by show 2 * 0 + _ ≤ _; exact Nat.le_of_eq rfl) (hb hby d28_8) (fun _ _ => ⟨rfl, e2, (by decide : 0 + 1 ≤ _), (by decide : 0 + 1 ≤ _)⟩)
  dsimp only [Pt.U, Pt.locs, Pt.cells, Pt.slots] at X3 l3 y3 z3 st3 hQ3
  subst l3 y3 z3
  obtain ⟨r, kr, rfl, N3q, Kc, V_r⟩ := hQ3
  have N3 := Fr.app N0 N3q
  refine own_st (V := T3.setTop (mkF m 11 #[.val (.ref oa)] [(.ref r)])) st3 ?_
  have V_t := V_t.keep Kc nin0
  have E_y1 := E_y1.keep Kc
  have F_e := F_e.keep Kc nin0
  have F_z := F_z.keep Kc nin0
  have Z0 : n0 ≤ T3.heap.size := Nat.le_trans Z0 Kc.1
  have O := O.keep Kc all0
  have K := K.trans Kc all0
  exact own_retA X3 hx Bd.notSynchronized Bd.returns rfl rfl (hb hby d28_11) (by decide) (by decide) (fun U hU hE => hF _ _ ⟨_, _, rfl, (by rw [hU]; exact ⟨_, _, rfl, N3, K, V_r⟩), hE⟩)
theorem own_ef_copy3_2 (m : MethodId) (x0 : Addr) (x1 : Int32) (x2 : Addr) : entryFrame m #[(.ref x0), (.int x1), (.ref x2)] 4 = mkF m 0 #[.val (.ref x0), .val (.int x1), .val (.ref x2), .unset] [] := by first | (simp [entryFrame, mkF, argsToLocals, Value.category]; done) | rfl
def Q_copy3_2 (Z : State) (t mr y1 y2 : Addr) (kt : ClassId) (h0 : Heap) (n0 : Nat) (v : Option Value) (h : Heap) (L : List Loc) : Prop := ∃ (r : Addr) (kr : ClassId), v = some (.ref r) ∧ Fr n0 L ∧ Keep h0 h [] ∧ Arv Z h r kr (.object "java/lang/Object") (2 : Int32) [(.ref y1), (.ref y2)] .null
set_option maxRecDepth 65536 in
set_option maxHeartbeats 40000000 in
theorem rm_copy3_2 (l : Launch) (Z : State) (a0 : Array Value) (hw : ∀ d ∈ tables_1, d.before a0 Z = true) (ws : List Jvm.Cond) (t mr y1 y2 : Addr) (kt : ClassId) (h0 : Heap) (n0 : Nat) (Z0 : n0 ≤ h0.size) (O : Old Z n0 h0) (V_t : Arv Z h0 t kt (.object "java/lang/Object") (10 : Int32) [(.ref y1), (.ref y2), .null, .null, .null, .null, .null, .null, .null, .null] .null) (hM : Mir Z "[Ljava/lang/Object;" mr) (E_y1 : Exa Z h0 y1 "com/example/vestline/vestline/service/SetAside") (E_y2 : Exa Z h0 y2 "com/example/vestline/vestline/service/SetAside") :
    MetFree l (⟨"java/util/Arrays", "copyOf", "([Ljava/lang/Object;ILjava/lang/Class;)[Ljava/lang/Object;"⟩ : MethodName) (head1 (Jvm.Cond.code (⟨"java/util/Arrays", "copyOf", "([Ljava/lang/Object;ILjava/lang/Class;)[Ljava/lang/Object;"⟩ : MethodName) jdk_65_method_120_code 4 (some (.array (.object "java/lang/Object"))) :: ws) ({ frames := 1, cells := 1, slots := 2, locals := 18 } : Room)) (fun a U => a = #[(.ref t), (.int (2 : Int32)), (.ref mr)] ∧ Z.Warmed39 U.vm ∧ U.heap = h0) (fun _ _ _ _ _ => True) (fun _ U o U' => ∃ v L, o = .returned v ∧ Q_copy3_2 Z t mr y1 y2 kt h0 n0 v U'.heap L ∧ FrameEnd U o U' L ({ frames := 1, cells := 1, slots := 2, locals := 18 } : Room).cells ({ frames := 1, cells := 1, slots := 2, locals := 18 } : Room).slots) := by
  refine MetFree.of_bodySF (plainFor_of_name own_pn_java_util_Arrays) hisR ?_
  intro p e s m args below meth c s₁ Bd hml0 hP hK
  obtain ⟨rfl, hZ, hh⟩ := hP
  have hx := Bd.exec
  have hby := Bd.bytes
  have hml : c.maxLocals = 4 := hml0
  have hown : s.vm.findClass "java/util/Arrays" = some m.cls := findClass_of_methodNamed Bd.named
  have hnm := (name_of_methodNamed Bd.named Bd.method).1
  have X0 : Stand p l e ({ frames := 1, cells := 1, slots := 2, locals := 18 } : Room) s m #[(.ref t), (.int (2 : Int32)), (.ref mr)] below meth c s₁ [] 0 0 := Stand.of_body Bd
  have e0 : s₁.heap = h0 := by rw [← hh, Bd.state]; rfl
  have N0 := Fr.nil n0
  refine own_start (F0 := fun o U' => ∃ v L, o = .returned v ∧ Q_copy3_2 Z t mr y1 y2 kt h0 n0 v U'.heap L ∧ FrameEnd s o U' L ({ frames := 1, cells := 1, slots := 2, locals := 18 } : Room).cells ({ frames := 1, cells := 1, slots := 2, locals := 18 } : Room).slots) fun F hF => ?_
  rw [own_ef_copy3_2 m t (2 : Int32) mr]
  have K := Keep.refl h0 []
  refine own_st (V := s₁.setTop (mkF m 1 #[.val (.ref t), .val (.int (2 : Int32)), .val (.ref mr), .unset] [(.ref mr)])) (fun _ hk => XS.aloadN X0.here hx rfl (hb hby d30_0) rfl rfl hk) ?_
  obtain ⟨T1, X1, e1, st1⟩ := own_ldcM X0 hx hZ hown (hw _ (List.mem_of_getElem? (i := 230) rfl)) e0 hM (g := (mkF m 1 #[.val (.ref t), .val (.int (2 : Int32)), .val (.ref mr), .unset] [(.ref mr)])) rfl (hb hby d30_1)
  refine own_st (V := T1.setTop (mkF m 3 #[.val (.ref t), .val (.int (2 : Int32)), .val (.ref mr), .unset] [(.ref mr), (.ref mr)])) st1 ?_
  refine own_st (V := T1.setTop (mkF m 6 #[.val (.ref t), .val (.int (2 : Int32)), .val (.ref mr), .unset] [])) (fun _ hk => Jvm.RoadKit.acmp (g := (mkF m 3 #[.val (.ref t), .val (.int (2 : Int32)), .val (.ref mr), .unset] [(.ref mr), (.ref mr)])) X1 hx rfl rfl rfl (pc0 := 3) (pc' := 6) (same := true) rfl (hb hby d30_3) rfl (decide_eq_true rfl) (by decide) (by decide) hk) ?_
  refine own_st (V := T1.setTop (mkF m 7 #[.val (.ref t), .val (.int (2 : Int32)), .val (.ref mr), .unset] [(.int (2 : Int32))])) (fun _ hk => XS.iloadN X1.here hx rfl (hb hby d30_6) rfl  hk) ?_
  obtain ⟨T2, h2, k2, X2, e2, E2, A2, Ex2, Ov2, st2⟩ := newRE X1 hx hZ hown (hw _ (List.mem_of_getElem? (i := 231) rfl)) (hw _ (List.mem_of_getElem? (i := 207) rfl)) e1 (g := (mkF m 7 #[.val (.ref t), .val (.int (2 : Int32)), .val (.ref mr), .unset] [(.int (2 : Int32))])) rfl (hb hby d30_7) rfl (by decide) (cap := 2) (by decide) (by decide) (by decide) (by decide) (ad := "[Ljava/lang/Object;") (by decide)
  obtain ⟨b2, g2⟩ : ∃ z, z = h0.size := ⟨_, rfl⟩
  rw [← g2] at A2 Ex2 st2
  have ne_t_b2 : t ≠ b2 := Nat.ne_of_lt (Nat.lt_of_lt_of_le V_t.lt (Nat.le_of_eq g2.symm))
  have ne_b2_t : b2 ≠ t := Ne.symm ne_t_b2
  have ne_y1_b2 : y1 ≠ b2 := Nat.ne_of_lt (Nat.lt_of_lt_of_le E_y1.lt (Nat.le_of_eq g2.symm))
  have ne_b2_y1 : b2 ≠ y1 := Ne.symm ne_y1_b2
  have ne_y2_b2 : y2 ≠ b2 := Nat.ne_of_lt (Nat.lt_of_lt_of_le E_y2.lt (Nat.le_of_eq g2.symm))
  have ne_b2_y2 : b2 ≠ y2 := Ne.symm ne_y2_b2
  have g_b2 : n0 ≤ b2 := Nat.le_trans Z0 (Nat.le_of_eq g2.symm)
  have sz_b2 : h0.size ≤ b2 := Nat.le_trans K.1 (Nat.le_of_eq g2.symm)
  have V_t := V_t.ext E2
  have E_y1 := E_y1.ext E2
  have E_y2 := E_y2.ext E2
  have O := O.ext E2
  have K := K.ext E2
  have Z0 : n0 ≤ h2.size := Nat.le_trans Z0 E2.1
  have V_b2 : Arv Z h2 b2 k2 (.object "java/lang/Object") (2 : Int32) [.null, .null] .null := (Arv.new A2 (by decide)).pad (pad_rep [] .null 2)
  have E_b2 := Ex2
  refine own_st (V := T2.setTop (mkF m 10 #[.val (.ref t), .val (.int (2 : Int32)), .val (.ref mr), .unset] [(.ref b2)])) st2 ?_
  refine own_st (V := T2.setTop (mkF m 24 #[.val (.ref t), .val (.int (2 : Int32)), .val (.ref mr), .unset] [(.ref b2)])) (fun _ hk => XS.goto X2.here hx rfl (pc0 := 10) (pc' := 24) rfl (hb hby d30_10) (by decide) (by decide) hk) ?_
  refine own_st (V := T2.setTop (mkF m 25 #[.val (.ref t), .val (.int (2 : Int32)), .val (.ref mr), .val (.ref b2)] [])) (fun _ hk => XS.astoreN X2.here hx rfl (hb hby d30_24) rfl rfl (l' := #[.val (.ref t), .val (.int (2 : Int32)), .val (.ref mr), .val (.ref b2)]) rfl hk) ?_
  refine own_st (V := T2.setTop (mkF m 26 #[.val (.ref t), .val (.int (2 : Int32)), .val (.ref mr), .val (.ref b2)] [(.ref t)])) (fun _ hk => XS.aloadN X2.here hx rfl (hb hby d30_25) rfl rfl hk) ?_
  refine own_st (V := T2.setTop (mkF m 27 #[.val (.ref t), .val (.int (2 : Int32)), .val (.ref mr), .val (.ref b2)] [(.int (0 : Int32)), (.ref t)])) (fun _ hk => XS.iconst X2.here hx rfl (hb hby d30_26) hk) ?_
  refine own_st (V := T2.setTop (mkF m 28 #[.val (.ref t), .val (.int (2 : Int32)), .val (.ref mr), .val (.ref b2)] [(.ref b2), (.int (0 : Int32)), (.ref t)])) (fun _ hk => XS.aloadN X2.here hx rfl (hb hby d30_27) rfl rfl hk) ?_
  refine own_st (V := T2.setTop (mkF m 29 #[.val (.ref t), .val (.int (2 : Int32)), .val (.ref mr), .val (.ref b2)] [(.int (0 : Int32)), (.ref b2), (.int (0 : Int32)), (.ref t)])) (fun _ hk => XS.iconst X2.here hx rfl (hb hby d30_28) hk) ?_
  refine own_st (V := T2.setTop (mkF m 30 #[.val (.ref t), .val (.int (2 : Int32)), .val (.ref mr), .val (.ref b2)] [(.ref t), (.int (0 : Int32)), (.ref b2), (.int (0 : Int32)), (.ref t)])) (fun _ hk => XS.aloadN X2.here hx rfl (hb hby d30_29) rfl rfl hk) ?_
  obtain ⟨cl3, Ar3, -, Sz3, Ng3, -, -⟩ := (id V_t : _)
  refine own_st (V := T2.setTop (mkF m 31 #[.val (.ref t), .val (.int (2 : Int32)), .val (.ref mr), .val (.ref b2)] [(.int cl3.slots.size.toInt32), (.int (0 : Int32)), (.ref b2), (.int (0 : Int32)), (.ref t)])) (X2.arraylength hx (by rw [e2]; exact Ar3.1) (State.isArrayOf_alike hZ.alike Ar3.2.1) (g := (mkF m 30 #[.val (.ref t), .val (.int (2 : Int32)), .val (.ref mr), .val (.ref b2)] [(.ref t), (.int (0 : Int32)), (.ref b2), (.int (0 : Int32)), (.ref t)])) rfl rfl (hb hby d30_30)) ?_
  rw [len_of Sz3 Ng3]
  refine own_st (V := T2.setTop (mkF m 32 #[.val (.ref t), .val (.int (2 : Int32)), .val (.ref mr), .val (.ref b2)] [(.int (2 : Int32)), (.int (10 : Int32)), (.int (0 : Int32)), (.ref b2), (.int (0 : Int32)), (.ref t)])) (fun _ hk => XS.iloadN X2.here hx rfl (hb hby d30_31) rfl  hk) ?_
  obtain ⟨_, _, ⟨T4, L4, k4, n4⟩, -, X4, ⟨Lc4, hQ4, l4, y4, z4⟩, st4⟩ := Jvm.LawKit.callS X2 hx (y := (⟨"java/lang/Math", "min", "(II)I"⟩ : MethodName)) hown (mvT hZ (hw _ (List.mem_of_getElem? (i := 232) rfl))) (mvT hZ (hw _ (List.mem_of_getElem? (i := 233) rfl))) (mvT hZ (hw _ (List.mem_of_getElem? (i := 204) rfl))) (mvT hZ (hw _ (List.mem_of_getElem? (i := 234) rfl))) (by decide) (backOf (W := 4) (rm_min l Z a0 hw [] (10 : Int32) (2 : Int32) h2 n0 Z0 (by decide)) hZ (hw _ (List.mem_of_getElem? (i := 234) rfl)) (hw _ (List.mem_of_getElem? (i := 204) rfl)) (by decide) (by decide)) (g := (mkF m 32 #[.val (.ref t), .val (.int (2 : Int32)), .val (.ref mr), .val (.ref b2)] [(.int (2 : Int32)), (.int (10 : Int32)), (.int (0 : Int32)), (.ref b2), (.int (0 : Int32)), (.ref t)])) rfl (by rw [hml]; rfl) (argsL := [(.int (10 : Int32)), (.int (2 : Int32))]) (rest := [(.int (0 : Int32)), (.ref b2), (.int (0 : Int32)), (.ref t)]) (lenOf own_pd8 rfl) rfl (by show 2 * 0 + _ ≤ _; exact Nat.le_of_eq rfl) (hb hby d30_32) (fun _ _ => ⟨rfl, e2, (by decide : 1 + 0 ≤ _), (by decide : 2 + 0 ≤ _)⟩)
  dsimp only [Pt.U, Pt.locs, Pt.cells, Pt.slots] at X4 l4 y4 z4 st4 hQ4
  subst l4 y4 z4
  obtain ⟨rfl, N4q, es4⟩ := hQ4
  have N4 := Fr.app N0 N4q
  refine own_st (V := T4.setTop (mkF m 35 #[.val (.ref t), .val (.int (2 : Int32)), .val (.ref mr), .val (.ref b2)] [(.int (2 : Int32)), (.int (0 : Int32)), (.ref b2), (.int (0 : Int32)), (.ref t)])) st4 ?_
  obtain ⟨T5, h5, L5, X5, e5, N5, Kp5, Vp5, st5⟩ := cpA X4 hx hZ hown (hw _ (List.mem_of_getElem? (i := 235) rfl)) (hw _ (List.mem_of_getElem? (i := 238) rfl)) (hw _ (List.mem_of_getElem? (i := 236) rfl)) (hw _ (List.mem_of_getElem? (i := 237) rfl)) es4 V_t V_b2 (us := [(.ref y1), (.ref y2)]) (Or.inr ⟨rfl, rfl, ⟨own_sto V_b2 Ov2 (Ins.of_exa E_y1 (hw _ (List.mem_of_getElem? (i := 208) rfl))), ⟨own_sto V_b2 Ov2 (Ins.of_exa E_y2 (hw _ (List.mem_of_getElem? (i := 208) rfl))), trivial⟩⟩⟩) (sp := (0 : Int32)) (dp := (0 : Int32)) (nn := (2 : Int32)) (by decide) (by decide) (by decide) (by decide) (by decide) rfl (by decide) N4 g_b2 (g := (mkF m 35 #[.val (.ref t), .val (.int (2 : Int32)), .val (.ref mr), .val (.ref b2)] [(.int (2 : Int32)), (.int (0 : Int32)), (.ref b2), (.int (0 : Int32)), (.ref t)])) rfl (by rw [hml]; rfl) (rest := []) rfl (hb hby d30_35) (by decide) (W := 0) (by show 2 * 0 + _ ≤ _; exact Nat.le_of_eq rfl) (by decide +kernel)
  have V_t := V_t.keep Kp5 (ninS ne_t_b2 nin0)
  have E_y1 := E_y1.keep Kp5
  have E_y2 := E_y2.keep Kp5
  have E_b2 := E_b2.keep Kp5
  have V_b2 : Arv Z h5 b2 k2 (.object "java/lang/Object") (2 : Int32) [(.ref y1), (.ref y2)] .null := Vp5
  have Z0 : n0 ≤ h5.size := Nat.le_trans Z0 Kp5.1
  have O := O.keep Kp5 (allS g_b2 all0)
  have K := K.trans Kp5 (allS (Or.inr sz_b2) all0)
  refine own_st (V := T5.setTop (mkF m 38 #[.val (.ref t), .val (.int (2 : Int32)), .val (.ref mr), .val (.ref b2)] [])) st5 ?_
  refine own_st (V := T5.setTop (mkF m 39 #[.val (.ref t), .val (.int (2 : Int32)), .val (.ref mr), .val (.ref b2)] [(.ref b2)])) (fun _ hk => XS.aloadN X5.here hx rfl (hb hby d30_38) rfl rfl hk) ?_
  exact own_retA X5 hx Bd.notSynchronized Bd.returns rfl rfl (hb hby d30_39) (by decide) (by decide) (fun U hU hE => hF _ _ ⟨_, _, rfl, (by rw [hU, e5]; exact ⟨_, _, rfl, N5, K, V_b2⟩), hE⟩)
theorem own_ef_copy2_2 (m : MethodId) (x0 : Addr) (x1 : Int32) : entryFrame m #[(.ref x0), (.int x1)] 2 = mkF m 0 #[.val (.ref x0), .val (.int x1)] [] := by first | (simp [entryFrame, mkF, argsToLocals, Value.category]; done) | rfl
def Q_copy2_2 (Z : State) (t mr y1 y2 : Addr) (kt : ClassId) (h0 : Heap) (n0 : Nat) (v : Option Value) (h : Heap) (L : List Loc) : Prop := ∃ (r : Addr) (kr : ClassId), v = some (.ref r) ∧ Fr n0 L ∧ Keep h0 h [] ∧ Arv Z h r kr (.object "java/lang/Object") (2 : Int32) [(.ref y1), (.ref y2)] .null
set_option maxRecDepth 65536 in
set_option maxHeartbeats 40000000 in
theorem rm_copy2_2 (l : Launch) (Z : State) (a0 : Array Value) (hw : ∀ d ∈ tables_1, d.before a0 Z = true) (ws : List Jvm.Cond) (t mr y1 y2 : Addr) (kt : ClassId) (h0 : Heap) (n0 : Nat) (Z0 : n0 ≤ h0.size) (O : Old Z n0 h0) (V_t : Arv Z h0 t kt (.object "java/lang/Object") (10 : Int32) [(.ref y1), (.ref y2), .null, .null, .null, .null, .null, .null, .null, .null] .null) (hM : Mir Z "[Ljava/lang/Object;" mr) (E_y1 : Exa Z h0 y1 "com/example/vestline/vestline/service/SetAside") (E_y2 : Exa Z h0 y2 "com/example/vestline/vestline/service/SetAside") (E_t : Exa Z h0 t "[Ljava/lang/Object;") :
    MetFree l (⟨"java/util/Arrays", "copyOf", "([Ljava/lang/Object;I)[Ljava/lang/Object;"⟩ : MethodName) (head1 (Jvm.Cond.code (⟨"java/util/Arrays", "copyOf", "([Ljava/lang/Object;I)[Ljava/lang/Object;"⟩ : MethodName) jdk_65_method_119_code 2 (some (.array (.object "java/lang/Object"))) :: ws) ({ frames := 2, cells := 1, slots := 2, locals := 33 } : Room)) (fun a U => a = #[(.ref t), (.int (2 : Int32))] ∧ Z.Warmed39 U.vm ∧ U.heap = h0) (fun _ _ _ _ _ => True) (fun _ U o U' => ∃ v L, o = .returned v ∧ Q_copy2_2 Z t mr y1 y2 kt h0 n0 v U'.heap L ∧ FrameEnd U o U' L ({ frames := 2, cells := 1, slots := 2, locals := 33 } : Room).cells ({ frames := 2, cells := 1, slots := 2, locals := 33 } : Room).slots) := by
  refine MetFree.of_bodySF (plainFor_of_name own_pn_java_util_Arrays) hisR ?_
  intro p e s m args below meth c s₁ Bd hml0 hP hK
  obtain ⟨rfl, hZ, hh⟩ := hP
  have hx := Bd.exec
  have hby := Bd.bytes
  have hml : c.maxLocals = 2 := hml0
  have hown : s.vm.findClass "java/util/Arrays" = some m.cls := findClass_of_methodNamed Bd.named
  have hnm := (name_of_methodNamed Bd.named Bd.method).1
  have X0 : Stand p l e ({ frames := 2, cells := 1, slots := 2, locals := 33 } : Room) s m #[(.ref t), (.int (2 : Int32))] below meth c s₁ [] 0 0 := Stand.of_body Bd
  have e0 : s₁.heap = h0 := by rw [← hh, Bd.state]; rfl
  have N0 := Fr.nil n0
  refine own_start (F0 := fun o U' => ∃ v L, o = .returned v ∧ Q_copy2_2 Z t mr y1 y2 kt h0 n0 v U'.heap L ∧ FrameEnd s o U' L ({ frames := 2, cells := 1, slots := 2, locals := 33 } : Room).cells ({ frames := 2, cells := 1, slots := 2, locals := 33 } : Room).slots) fun F hF => ?_
  rw [own_ef_copy2_2 m t (2 : Int32)]
  have K := Keep.refl h0 []
  refine own_st (V := s₁.setTop (mkF m 1 #[.val (.ref t), .val (.int (2 : Int32))] [(.ref t)])) (fun _ hk => XS.aloadN X0.here hx rfl (hb hby d29_0) rfl rfl hk) ?_
  refine own_st (V := s₁.setTop (mkF m 2 #[.val (.ref t), .val (.int (2 : Int32))] [(.int (2 : Int32)), (.ref t)])) (fun _ hk => XS.iloadN X0.here hx rfl (hb hby d29_1) rfl  hk) ?_
  refine own_st (V := s₁.setTop (mkF m 3 #[.val (.ref t), .val (.int (2 : Int32))] [(.ref t), (.int (2 : Int32)), (.ref t)])) (fun _ hk => XS.aloadN X0.here hx rfl (hb hby d29_2) rfl rfl hk) ?_
  obtain ⟨T1, X1, e1, st1⟩ := gcls X0 hx hZ hown (hw _ (List.mem_of_getElem? (i := 221) rfl)) (hw _ (List.mem_of_getElem? (i := 222) rfl)) (hw _ (List.mem_of_getElem? (i := 140) rfl)) (hw _ (List.mem_of_getElem? (i := 224) rfl)) (hw _ (List.mem_of_getElem? (i := 223) rfl)) (hw _ (List.mem_of_getElem? (i := 225) rfl)) e0 E_t hM (g := (mkF m 3 #[.val (.ref t), .val (.int (2 : Int32))] [(.ref t), (.int (2 : Int32)), (.ref t)])) rfl (by rw [hml]; rfl) rfl (hb hby d29_3) (by decide) (W := 2) (by show 2 * 0 + _ ≤ _; exact Nat.le_of_eq rfl) (by decide +kernel)
  refine own_st (V := T1.setTop (mkF m 6 #[.val (.ref t), .val (.int (2 : Int32))] [(.ref mr), (.int (2 : Int32)), (.ref t)])) st1 ?_
  obtain ⟨_, _, ⟨T2, L2, k2, n2⟩, -, X2, ⟨Lc2, hQ2, l2, y2, z2⟩, st2⟩ := Jvm.LawKit.callS X1 hx (y := (⟨"java/util/Arrays", "copyOf", "([Ljava/lang/Object;ILjava/lang/Class;)[Ljava/lang/Object;"⟩ : MethodName)) hown (mvT hZ (hw _ (List.mem_of_getElem? (i := 227) rfl))) (mvT hZ (hw _ (List.mem_of_getElem? (i := 228) rfl))) (mvT hZ (hw _ (List.mem_of_getElem? (i := 219) rfl))) (mvT hZ (hw _ (List.mem_of_getElem? (i := 229) rfl))) (by decide) (backOf (W := 0) (rm_copy3_2 l Z a0 hw [] t mr y1 y2 kt h0 n0 Z0 O V_t hM E_y1 E_y2) hZ (hw _ (List.mem_of_getElem? (i := 229) rfl)) (hw _ (List.mem_of_getElem? (i := 219) rfl)) (by decide) (by decide)) (g := (mkF m 6 #[.val (.ref t), .val (.int (2 : Int32))] [(.ref mr), (.int (2 : Int32)), (.ref t)])) rfl (by rw [hml]; rfl) (argsL := [(.ref t), (.int (2 : Int32)), (.ref mr)]) (rest := []) (lenOf own_pd12 rfl) rfl (by show 2 * 0 + _ ≤ _; exact Nat.le_of_eq rfl) (hb hby d29_6) (fun _ _ => ⟨rfl, e1, (by decide : 0 + 1 ≤ _), (by decide : 0 + 2 ≤ _)⟩)
  dsimp only [Pt.U, Pt.locs, Pt.cells, Pt.slots] at X2 l2 y2 z2 st2 hQ2
  subst l2 y2 z2
  obtain ⟨r, kr, rfl, N2q, Kc, V_r⟩ := hQ2
  have N2 := Fr.app N0 N2q
  refine own_st (V := T2.setTop (mkF m 9 #[.val (.ref t), .val (.int (2 : Int32))] [(.ref r)])) st2 ?_
  have V_t := V_t.keep Kc nin0
  have E_y1 := E_y1.keep Kc
  have E_y2 := E_y2.keep Kc
  have Z0 : n0 ≤ T2.heap.size := Nat.le_trans Z0 Kc.1
  have O := O.keep Kc all0
  have K := K.trans Kc all0
  exact own_retA X2 hx Bd.notSynchronized Bd.returns rfl rfl (hb hby d29_9) (by decide) (by decide) (fun U hU hE => hF _ _ ⟨_, _, rfl, (by rw [hU]; exact ⟨_, _, rfl, N2, K, V_r⟩), hE⟩)
theorem own_ef_toArr2 (m : MethodId) (x0 : Addr) : entryFrame m #[(.ref x0)] 1 = mkF m 0 #[.val (.ref x0)] [] := by first | (simp [entryFrame, mkF, argsToLocals, Value.category]; done) | rfl
def Q_toArr2 (Z : State) (oa : Addr) (t mr y1 y2 : Addr) (kt : ClassId) (h0 : Heap) (n0 : Nat) (v : Option Value) (h : Heap) (L : List Loc) : Prop := ∃ (r : Addr) (kr : ClassId), v = some (.ref r) ∧ Fr n0 L ∧ Keep h0 h [] ∧ Arv Z h r kr (.object "java/lang/Object") (2 : Int32) [(.ref y1), (.ref y2)] .null
set_option maxRecDepth 65536 in
set_option maxHeartbeats 40000000 in
theorem rm_toArr2 (l : Launch) (Z : State) (a0 : Array Value) (hw : ∀ d ∈ tables_1, d.before a0 Z = true) (ws : List Jvm.Cond) (oa : Addr) (t mr y1 y2 : Addr) (kt : ClassId) (h0 : Heap) (n0 : Nat) (Z0 : n0 ≤ h0.size) (O : Old Z n0 h0) (F_e : Fld Z h0 oa "java/util/ArrayList" "elementData" "[Ljava/lang/Object;" (.ref t)) (F_z : Fld Z h0 oa "java/util/ArrayList" "size" "I" (.int 2)) (V_t : Arv Z h0 t kt (.object "java/lang/Object") (10 : Int32) [(.ref y1), (.ref y2), .null, .null, .null, .null, .null, .null, .null, .null] .null) (hM : Mir Z "[Ljava/lang/Object;" mr) (E_y1 : Exa Z h0 y1 "com/example/vestline/vestline/service/SetAside") (E_y2 : Exa Z h0 y2 "com/example/vestline/vestline/service/SetAside") (E_t : Exa Z h0 t "[Ljava/lang/Object;") :
    MetFree l (⟨"java/util/ArrayList", "toArray", "()[Ljava/lang/Object;"⟩ : MethodName) (head1 (Jvm.Cond.code (⟨"java/util/ArrayList", "toArray", "()[Ljava/lang/Object;"⟩ : MethodName) jdk_38_method_16_code 1 (some (.array (.object "java/lang/Object"))) :: ws) ({ frames := 3, cells := 1, slots := 2, locals := 46 } : Room)) (fun a U => a = #[(.ref oa)] ∧ Z.Warmed39 U.vm ∧ U.heap = h0) (fun _ _ _ _ _ => True) (fun _ U o U' => ∃ v L, o = .returned v ∧ Q_toArr2 Z oa t mr y1 y2 kt h0 n0 v U'.heap L ∧ FrameEnd U o U' L ({ frames := 3, cells := 1, slots := 2, locals := 46 } : Room).cells ({ frames := 3, cells := 1, slots := 2, locals := 46 } : Room).slots) := by
  refine MetFree.of_bodySF (plainFor_of_name own_pn_java_util_ArrayList) hisR ?_
  intro p e s m args below meth c s₁ Bd hml0 hP hK
  obtain ⟨rfl, hZ, hh⟩ := hP
  have hx := Bd.exec
  have hby := Bd.bytes
  have hml : c.maxLocals = 1 := hml0
  have hown : s.vm.findClass "java/util/ArrayList" = some m.cls := findClass_of_methodNamed Bd.named
  have hnm := (name_of_methodNamed Bd.named Bd.method).1
  have X0 : Stand p l e ({ frames := 3, cells := 1, slots := 2, locals := 46 } : Room) s m #[(.ref oa)] below meth c s₁ [] 0 0 := Stand.of_body Bd
  have e0 : s₁.heap = h0 := by rw [← hh, Bd.state]; rfl
  have N0 := Fr.nil n0
  refine own_start (F0 := fun o U' => ∃ v L, o = .returned v ∧ Q_toArr2 Z oa t mr y1 y2 kt h0 n0 v U'.heap L ∧ FrameEnd s o U' L ({ frames := 3, cells := 1, slots := 2, locals := 46 } : Room).cells ({ frames := 3, cells := 1, slots := 2, locals := 46 } : Room).slots) fun F hF => ?_
  rw [own_ef_toArr2 m oa]
  have K := Keep.refl h0 []
  refine own_st (V := s₁.setTop (mkF m 1 #[.val (.ref oa)] [(.ref oa)])) (fun _ hk => XS.aloadN X0.here hx rfl (hb hby d28_0) rfl rfl hk) ?_
  obtain ⟨T1, X1, e1, st1⟩ := getF X0 hx hZ hown (host := "") (Or.inl (hw _ (List.mem_of_getElem? (i := 119) rfl))) Via.refl e0 F_e (g := (mkF m 1 #[.val (.ref oa)] [(.ref oa)])) rfl rfl (hb hby d28_1)
  refine own_st (V := T1.setTop (mkF m 4 #[.val (.ref oa)] [(.ref t)])) st1 ?_
  refine own_st (V := T1.setTop (mkF m 5 #[.val (.ref oa)] [(.ref oa), (.ref t)])) (fun _ hk => XS.aloadN X1.here hx rfl (hb hby d28_4) rfl rfl hk) ?_
  obtain ⟨T2, X2, e2, st2⟩ := getF X1 hx hZ hown (host := "") (Or.inl (hw _ (List.mem_of_getElem? (i := 151) rfl))) Via.refl e1 F_z (g := (mkF m 5 #[.val (.ref oa)] [(.ref oa), (.ref t)])) rfl rfl (hb hby d28_5)
  refine own_st (V := T2.setTop (mkF m 8 #[.val (.ref oa)] [(.int (2 : Int32)), (.ref t)])) st2 ?_
  obtain ⟨_, _, ⟨T3, L3, k3, n3⟩, -, X3, ⟨Lc3, hQ3, l3, y3, z3⟩, st3⟩ := Jvm.LawKit.callS X2 hx (y := (⟨"java/util/Arrays", "copyOf", "([Ljava/lang/Object;I)[Ljava/lang/Object;"⟩ : MethodName)) hown (mvT hZ (hw _ (List.mem_of_getElem? (i := 217) rfl))) (mvT hZ (hw _ (List.mem_of_getElem? (i := 218) rfl))) (mvT hZ (hw _ (List.mem_of_getElem? (i := 219) rfl))) (mvT hZ (hw _ (List.mem_of_getElem? (i := 220) rfl))) (by decide) (backOf (W := 0) (rm_copy2_2 l Z a0 hw [] t mr y1 y2 kt h0 n0 Z0 O V_t hM E_y1 E_y2 E_t) hZ (hw _ (List.mem_of_getElem? (i := 220) rfl)) (hw _ (List.mem_of_getElem? (i := 219) rfl)) (by decide) (by decide)) (g := (mkF m 8 #[.val (.ref oa)] [(.int (2 : Int32)), (.ref t)])) rfl (by rw [hml]; rfl) (argsL := [(.ref t), (.int (2 : Int32))]) (rest := []) (lenOf own_pd13 rfl) rfl (by show 2 * 0 + _ ≤ _; exact Nat.le_of_eq rfl) (hb hby d28_8) (fun _ _ => ⟨rfl, e2, (by decide : 0 + 1 ≤ _), (by decide : 0 + 2 ≤ _)⟩)
  dsimp only [Pt.U, Pt.locs, Pt.cells, Pt.slots] at X3 l3 y3 z3 st3 hQ3
  subst l3 y3 z3
  obtain ⟨r, kr, rfl, N3q, Kc, V_r⟩ := hQ3
  have N3 := Fr.app N0 N3q
  refine own_st (V := T3.setTop (mkF m 11 #[.val (.ref oa)] [(.ref r)])) st3 ?_
  have V_t := V_t.keep Kc nin0
  have E_y1 := E_y1.keep Kc
  have E_y2 := E_y2.keep Kc
  have F_e := F_e.keep Kc nin0
  have F_z := F_z.keep Kc nin0
  have Z0 : n0 ≤ T3.heap.size := Nat.le_trans Z0 Kc.1
  have O := O.keep Kc all0
  have K := K.trans Kc all0
  exact own_retA X3 hx Bd.notSynchronized Bd.returns rfl rfl (hb hby d28_11) (by decide) (by decide) (fun U hU hE => hF _ _ ⟨_, _, rfl, (by rw [hU]; exact ⟨_, _, rfl, N3, K, V_r⟩), hE⟩)
theorem d41_0 : decode jdk_44_method_1_code 0 = .ok (.aload_n 0, 1) := by decide +kernel
theorem d41_1 : decode jdk_44_method_1_code 1 = .ok (.invokespecial 1, 3) := by decide +kernel
theorem d41_4 : decode jdk_44_method_1_code 4 = .ok (.aload_n 0, 1) := by decide +kernel
theorem d41_5 : decode jdk_44_method_1_code 5 = .ok (.aload_n 1, 1) := by decide +kernel
theorem d41_6 : decode jdk_44_method_1_code 6 = .ok (.invokestatic 7, 3) := by decide +kernel
theorem own_pd14 : parseMethodDescriptor "(Ljava/lang/Object;)Ljava/lang/Object;" = some ⟨[(.object "java/lang/Object")], some (.object "java/lang/Object")⟩ := by decide +kernel
theorem d41_9 : decode jdk_44_method_1_code 9 = .ok (.putfield 13, 3) := by decide +kernel
theorem d41_12 : decode jdk_44_method_1_code 12 = .ok (.aload_n 0, 1) := by decide +kernel
theorem d41_13 : decode jdk_44_method_1_code 13 = .ok (.getstatic 19, 3) := by decide +kernel
theorem d41_16 : decode jdk_44_method_1_code 16 = .ok (.putfield 24, 3) := by decide +kernel
theorem d41_19 : decode jdk_44_method_1_code 19 = .ok (.return_, 1) := by decide +kernel
theorem own_pn_java_util_ImmutableCollections_List12 : plainName "java/util/ImmutableCollections$List12" = true := by first | (simp [plainName, overriddenIn]; done) | decide +kernel
theorem own_ef_l12_1 (m : MethodId) (x0 : Addr) (x1 : Addr) : entryFrame m #[(.ref x0), (.ref x1)] 2 = mkF m 0 #[.val (.ref x0), .val (.ref x1)] [] := by first | (simp [entryFrame, mkF, argsToLocals, Value.category]; done) | rfl
def Q_l12_1 (Z : State) (oa y1 : Addr) (u1 u2 : Value) (dc el ea em mr : Addr) (kd ke : ClassId) (h0 : Heap) (n0 : Nat) (v : Option Value) (h : Heap) (L : List Loc) : Prop := v = none ∧ Fr n0 L ∧ Keep h0 h [oa] ∧ Fld Z h oa "java/util/ImmutableCollections$List12" "e0" "Ljava/lang/Object;" (.ref y1) ∧ Fld Z h oa "java/util/ImmutableCollections$List12" "e1" "Ljava/lang/Object;" (.ref em)
set_option maxRecDepth 65536 in
set_option maxHeartbeats 40000000 in
theorem rm_l12_1 (l : Launch) (Z : State) (a0 : Array Value) (hw : ∀ d ∈ tables_1, d.before a0 Z = true) (ws : List Jvm.Cond) (oa y1 : Addr) (u1 u2 : Value) (dc el ea em mr : Addr) (kd ke : ClassId) (h0 : Heap) (n0 : Nat) (Z0 : n0 ≤ h0.size) (O : Old Z n0 h0) (hT : own_ST Z dc el ea em mr kd ke) (E_a : Exa Z h0 oa "java/util/ImmutableCollections$List12") (F_0 : Fld Z h0 oa "java/util/ImmutableCollections$List12" "e0" "Ljava/lang/Object;" u1) (F_1 : Fld Z h0 oa "java/util/ImmutableCollections$List12" "e1" "Ljava/lang/Object;" u2) (g_oa : n0 ≤ oa) :
    MetFree l (⟨"java/util/ImmutableCollections$List12", "<init>", "(Ljava/lang/Object;)V"⟩ : MethodName) (head1 (Jvm.Cond.code (⟨"java/util/ImmutableCollections$List12", "<init>", "(Ljava/lang/Object;)V"⟩ : MethodName) jdk_44_method_1_code 2 none :: ws) ({ frames := 4, cells := 0, slots := 0, locals := 48 } : Room)) (fun a U => a = #[(.ref oa), (.ref y1)] ∧ Z.Warmed39 U.vm ∧ U.heap = h0) (fun _ _ _ _ _ => True) (fun _ U o U' => ∃ v L, o = .returned v ∧ Q_l12_1 Z oa y1 u1 u2 dc el ea em mr kd ke h0 n0 v U'.heap L ∧ FrameEnd U o U' L ({ frames := 4, cells := 0, slots := 0, locals := 48 } : Room).cells ({ frames := 4, cells := 0, slots := 0, locals := 48 } : Room).slots) := by
  refine MetFree.of_bodySF (plainFor_of_name own_pn_java_util_ImmutableCollections_List12) hisR ?_
  intro p e s m args below meth c s₁ Bd hml0 hP hK
  obtain ⟨rfl, hZ, hh⟩ := hP
  have hx := Bd.exec
  have hby := Bd.bytes
  have hml : c.maxLocals = 2 := hml0
  have hown : s.vm.findClass "java/util/ImmutableCollections$List12" = some m.cls := findClass_of_methodNamed Bd.named
  have hnm := (name_of_methodNamed Bd.named Bd.method).1
  have X0 : Stand p l e ({ frames := 4, cells := 0, slots := 0, locals := 48 } : Room) s m #[(.ref oa), (.ref y1)] below meth c s₁ [] 0 0 := Stand.of_body Bd
  have e0 : s₁.heap = h0 := by rw [← hh, Bd.state]; rfl
  have N0 := Fr.nil n0
  refine own_start (F0 := fun o U' => ∃ v L, o = .returned v ∧ Q_l12_1 Z oa y1 u1 u2 dc el ea em mr kd ke h0 n0 v U'.heap L ∧ FrameEnd s o U' L ({ frames := 4, cells := 0, slots := 0, locals := 48 } : Room).cells ({ frames := 4, cells := 0, slots := 0, locals := 48 } : Room).slots) fun F hF => ?_
  rw [own_ef_l12_1 m oa y1]
  have K := Keep.refl h0 [oa]
  obtain ⟨Sdc, Vdc, Sel, Eel, Fel, Vea, Sem, Eem, hM⟩ := hT
  refine own_st (V := s₁.setTop (mkF m 1 #[.val (.ref oa), .val (.ref y1)] [(.ref oa)])) (fun _ hk => XS.aloadN X0.here hx rfl (hb hby d41_0) rfl rfl hk) ?_
  obtain ⟨_, _, ⟨T1, L1, k1, n1⟩, -, X1, ⟨Lc1, hQ1, l1, y1, z1⟩, st1⟩ := X0.specialBack hx (y := (⟨"java/util/ImmutableCollections$AbstractImmutableList", "<init>", "()V"⟩ : MethodName)) rfl hown (mvT hZ (hw _ (List.mem_of_getElem? (i := 249) rfl))) (mvT hZ (hw _ (List.mem_of_getElem? (i := 250) rfl))) (mvT hZ (hw _ (List.mem_of_getElem? (i := 254) rfl))) (by decide) (backOf (W := 0) (rm_ailInit l Z a0 hw [] oa h0 n0 Z0) hZ (hw _ (List.mem_of_getElem? (i := 254) rfl)) (hw _ (List.mem_of_getElem? (i := 253) rfl)) (by decide) (by decide)) (g := (mkF m 1 #[.val (.ref oa), .val (.ref y1)] [(.ref oa)])) rfl (by rw [hml]; rfl) (Steps.refl _) (a := oa) (argsL := []) (rest := []) (lenOf own_pd6 rfl) rfl (by show 2 * 0 + _ ≤ _; exact Nat.le_of_eq rfl) (hb hby d41_1) (fun _ _ => ⟨rfl, e0, (by decide : 0 + 0 ≤ _), (by decide : 0 + 0 ≤ _)⟩)
  dsimp only [Pt.U, Pt.locs, Pt.cells, Pt.slots] at X1 l1 y1 z1 st1 hQ1
  subst l1 y1 z1
  obtain ⟨rfl, N1q, es1⟩ := hQ1
  have N1 := Fr.app N0 N1q
  refine own_tr (V := T1.setTop (mkF m 4 #[.val (.ref oa), .val (.ref y1)] [])) st1 ?_
  refine own_st (V := T1.setTop (mkF m 5 #[.val (.ref oa), .val (.ref y1)] [(.ref oa)])) (fun _ hk => XS.aloadN X1.here hx rfl (hb hby d41_4) rfl rfl hk) ?_
  refine own_st (V := T1.setTop (mkF m 6 #[.val (.ref oa), .val (.ref y1)] [(.ref y1), (.ref oa)])) (fun _ hk => XS.aloadN X1.here hx rfl (hb hby d41_5) rfl rfl hk) ?_
  obtain ⟨_, _, ⟨T2, L2, k2, n2⟩, -, X2, ⟨Lc2, hQ2, l2, y2, z2⟩, st2⟩ := Jvm.LawKit.callS X1 hx (y := (⟨"java/util/Objects", "requireNonNull", "(Ljava/lang/Object;)Ljava/lang/Object;"⟩ : MethodName)) hown (mvT hZ (hw _ (List.mem_of_getElem? (i := 263) rfl))) (mvT hZ (hw _ (List.mem_of_getElem? (i := 264) rfl))) (mvT hZ (hw _ (List.mem_of_getElem? (i := 90) rfl))) (mvT hZ (hw _ (List.mem_of_getElem? (i := 265) rfl))) (by decide) (backOf (W := 1) (rm_nonnull1 l Z a0 hw [] y1 h0 n0 Z0) hZ (hw _ (List.mem_of_getElem? (i := 265) rfl)) (hw _ (List.mem_of_getElem? (i := 90) rfl)) (by decide) (by decide)) (g := (mkF m 6 #[.val (.ref oa), .val (.ref y1)] [(.ref y1), (.ref oa)])) rfl (by rw [hml]; rfl) (argsL := [(.ref y1)]) (rest := [(.ref oa)]) (lenOf own_pd14 rfl) rfl (by show 2 * 0 + _ ≤ _; exact Nat.le_of_eq rfl) (hb hby d41_6) (fun _ _ => ⟨rfl, es1, (by decide : 0 + 0 ≤ _), (by decide : 0 + 0 ≤ _)⟩)
  dsimp only [Pt.U, Pt.locs, Pt.cells, Pt.slots] at X2 l2 y2 z2 st2 hQ2
  subst l2 y2 z2
  obtain ⟨rfl, N2q, es2⟩ := hQ2
  have N2 := Fr.app N1 N2q
  refine own_st (V := T2.setTop (mkF m 9 #[.val (.ref oa), .val (.ref y1)] [(.ref y1), (.ref oa)])) st2 ?_
  obtain ⟨T3, h3, X3, e3, W3, st3⟩ := putF X2 hx hZ hown (host := "") (Or.inl (hw _ (List.mem_of_getElem? (i := 266) rfl))) Via.refl es2 F_0 E_a (Or.inr ⟨(hw _ (List.mem_of_getElem? (i := 267) rfl)), rfl, hnm⟩) (hw _ (List.mem_of_getElem? (i := 243) rfl)) (ty := (.object "java/lang/Object")) (by decide) rfl rfl (g := (mkF m 9 #[.val (.ref oa), .val (.ref y1)] [(.ref y1), (.ref oa)])) rfl rfl (hb hby d41_9)
  have E_a := E_a.wr W3
  have F_1 := F_1.other W3 (Or.inr (slot_ne (Or.inr (hw _ (List.mem_of_getElem? (i := 269) rfl))) (Or.inr (hw _ (List.mem_of_getElem? (i := 267) rfl))) (by decide) (t := (.object "java/lang/Object")) (t' := (.object "java/lang/Object")) (by decide) (by decide)))
  have F_0 := F_0.same W3
  have K := K.wr W3 (Or.inl (List.mem_of_getElem? (i := 0) rfl))
  have N3 := Fr.snoc X3 N2 g_oa
  have O := O.wr W3 g_oa
  have Z0 : n0 ≤ h3.size := Nat.le_trans Z0 (Keep.of_wr W3).1
  refine own_st (V := T3.setTop (mkF m 12 #[.val (.ref oa), .val (.ref y1)] [])) st3 ?_
  refine own_st (V := T3.setTop (mkF m 13 #[.val (.ref oa), .val (.ref y1)] [(.ref oa)])) (fun _ hk => XS.aloadN X3.here hx rfl (hb hby d41_12) rfl rfl hk) ?_
  obtain ⟨T4, X4, e4, st4⟩ := getS2 X3 hx hZ hown (Or.inr (hw _ (List.mem_of_getElem? (i := 284) rfl))) Via.refl e3 (Sem.ext O.2) (g := (mkF m 13 #[.val (.ref oa), .val (.ref y1)] [(.ref oa)])) rfl (hb hby d41_13)
  refine own_st (V := T4.setTop (mkF m 16 #[.val (.ref oa), .val (.ref y1)] [(.ref em), (.ref oa)])) st4 ?_
  obtain ⟨T5, h5, X5, e5, W5, st5⟩ := putF X4 hx hZ hown (host := "") (Or.inl (hw _ (List.mem_of_getElem? (i := 268) rfl))) Via.refl e4 F_1 E_a (Or.inr ⟨(hw _ (List.mem_of_getElem? (i := 269) rfl)), rfl, hnm⟩) (hw _ (List.mem_of_getElem? (i := 243) rfl)) (ty := (.object "java/lang/Object")) (by decide) rfl rfl (g := (mkF m 16 #[.val (.ref oa), .val (.ref y1)] [(.ref em), (.ref oa)])) rfl rfl (hb hby d41_16)
  have E_a := E_a.wr W5
  have F_0 := F_0.other W5 (Or.inr (slot_ne (Or.inr (hw _ (List.mem_of_getElem? (i := 267) rfl))) (Or.inr (hw _ (List.mem_of_getElem? (i := 269) rfl))) (by decide) (t := (.object "java/lang/Object")) (t' := (.object "java/lang/Object")) (by decide) (by decide)))
  have F_1 := F_1.same W5
  have K := K.wr W5 (Or.inl (List.mem_of_getElem? (i := 0) rfl))
  have N5 := Fr.snoc X5 N3 g_oa
  have O := O.wr W5 g_oa
  have Z0 : n0 ≤ h5.size := Nat.le_trans Z0 (Keep.of_wr W5).1
  refine own_st (V := T5.setTop (mkF m 19 #[.val (.ref oa), .val (.ref y1)] [])) st5 ?_
  exact own_retV X5 hx Bd.notSynchronized Bd.returns (hb hby d41_19) (by decide) (by decide) (fun U hU hE => hF _ _ ⟨_, _, rfl, (by rw [hU, e5]; exact ⟨rfl, N5, K, F_0, F_1⟩), hE⟩)
theorem d32_0 : decode jdk_40_method_47_code 0 = .ok (.aload_n 0, 1) := by decide +kernel
theorem d32_1 : decode jdk_40_method_47_code 1 = .ok (.arraylength, 1) := by decide +kernel
theorem d32_2 : decode jdk_40_method_47_code 2 = .ok (.tableswitch 57 0 2 #[26, 32, 43], 26) := by decide +kernel
theorem d32_34 : decode jdk_40_method_47_code 34 = .ok (.new 96, 3) := by decide +kernel
theorem d32_37 : decode jdk_40_method_47_code 37 = .ok (.dup, 1) := by decide +kernel
theorem d32_38 : decode jdk_40_method_47_code 38 = .ok (.aload_n 0, 1) := by decide +kernel
theorem d32_39 : decode jdk_40_method_47_code 39 = .ok (.iconst 0, 1) := by decide +kernel
theorem d32_40 : decode jdk_40_method_47_code 40 = .ok (.aaload, 1) := by decide +kernel
theorem d32_41 : decode jdk_40_method_47_code 41 = .ok (.invokespecial 98, 3) := by decide +kernel
theorem own_pd15 : parseMethodDescriptor "(Ljava/lang/Object;)V" = some ⟨[(.object "java/lang/Object")], none⟩ := by decide +kernel
theorem d32_44 : decode jdk_40_method_47_code 44 = .ok (.areturn, 1) := by decide +kernel
theorem own_pn_java_util_List : plainName "java/util/List" = true := by first | (simp [plainName, overriddenIn]; done) | decide +kernel
theorem own_ef_of_1 (m : MethodId) (x0 : Addr) : entryFrame m #[(.ref x0)] 2 = mkF m 0 #[.val (.ref x0), .unset] [] := by first | (simp [entryFrame, mkF, argsToLocals, Value.category]; done) | rfl
def Q_of_1 (Z : State) (t y1 : Addr) (kt : ClassId) (dc el ea em mr : Addr) (kd ke : ClassId) (h0 : Heap) (n0 : Nat) (v : Option Value) (h : Heap) (L : List Loc) : Prop := ∃ r : Addr, v = some (.ref r) ∧ Fr n0 L ∧ Keep h0 h [] ∧ h0.size ≤ r ∧ Exa Z h r "java/util/ImmutableCollections$List12" ∧ Fld Z h r "java/util/ImmutableCollections$List12" "e0" "Ljava/lang/Object;" (.ref y1) ∧ Fld Z h r "java/util/ImmutableCollections$List12" "e1" "Ljava/lang/Object;" (.ref em)
set_option maxRecDepth 65536 in
set_option maxHeartbeats 40000000 in
theorem rm_of_1 (l : Launch) (Z : State) (a0 : Array Value) (hw : ∀ d ∈ tables_1, d.before a0 Z = true) (ws : List Jvm.Cond) (t y1 : Addr) (kt : ClassId) (dc el ea em mr : Addr) (kd ke : ClassId) (h0 : Heap) (n0 : Nat) (Z0 : n0 ≤ h0.size) (O : Old Z n0 h0) (hT : own_ST Z dc el ea em mr kd ke) (V_t : Arv Z h0 t kt (.object "java/lang/Object") (1 : Int32) [(.ref y1)] .null) :
    MetFree l (⟨"java/util/List", "of", "([Ljava/lang/Object;)Ljava/util/List;"⟩ : MethodName) (head1 (Jvm.Cond.code (⟨"java/util/List", "of", "([Ljava/lang/Object;)Ljava/util/List;"⟩ : MethodName) jdk_40_method_47_code 2 (some (.object "java/util/List")) :: ws) ({ frames := 5, cells := 1, slots := 2, locals := 62 } : Room)) (fun a U => a = #[(.ref t)] ∧ Z.Warmed39 U.vm ∧ U.heap = h0) (fun _ _ _ _ _ => True) (fun _ U o U' => ∃ v L, o = .returned v ∧ Q_of_1 Z t y1 kt dc el ea em mr kd ke h0 n0 v U'.heap L ∧ FrameEnd U o U' L ({ frames := 5, cells := 1, slots := 2, locals := 62 } : Room).cells ({ frames := 5, cells := 1, slots := 2, locals := 62 } : Room).slots) := by
  refine MetFree.of_bodySF (plainFor_of_name own_pn_java_util_List) hisR ?_
  intro p e s m args below meth c s₁ Bd hml0 hP hK
  obtain ⟨rfl, hZ, hh⟩ := hP
  have hx := Bd.exec
  have hby := Bd.bytes
  have hml : c.maxLocals = 2 := hml0
  have hown : s.vm.findClass "java/util/List" = some m.cls := findClass_of_methodNamed Bd.named
  have hnm := (name_of_methodNamed Bd.named Bd.method).1
  have X0 : Stand p l e ({ frames := 5, cells := 1, slots := 2, locals := 62 } : Room) s m #[(.ref t)] below meth c s₁ [] 0 0 := Stand.of_body Bd
  have e0 : s₁.heap = h0 := by rw [← hh, Bd.state]; rfl
  have N0 := Fr.nil n0
  refine own_start (F0 := fun o U' => ∃ v L, o = .returned v ∧ Q_of_1 Z t y1 kt dc el ea em mr kd ke h0 n0 v U'.heap L ∧ FrameEnd s o U' L ({ frames := 5, cells := 1, slots := 2, locals := 62 } : Room).cells ({ frames := 5, cells := 1, slots := 2, locals := 62 } : Room).slots) fun F hF => ?_
  rw [own_ef_of_1 m t]
  have K := Keep.refl h0 []
  refine own_st (V := s₁.setTop (mkF m 1 #[.val (.ref t), .unset] [(.ref t)])) (fun _ hk => XS.aloadN X0.here hx rfl (hb hby d32_0) rfl rfl hk) ?_
  obtain ⟨cl1, Ar1, -, Sz1, Ng1, -, -⟩ := (id V_t : _)
  refine own_st (V := s₁.setTop (mkF m 2 #[.val (.ref t), .unset] [(.int cl1.slots.size.toInt32)])) (X0.arraylength hx (by rw [e0]; exact Ar1.1) (State.isArrayOf_alike hZ.alike Ar1.2.1) (g := (mkF m 1 #[.val (.ref t), .unset] [(.ref t)])) rfl rfl (hb hby d32_1)) ?_
  rw [len_of Sz1 Ng1]
  refine own_st (V := s₁.setTop (mkF m 34 #[.val (.ref t), .unset] [])) (X0.tableswitchIn hx (g := (mkF m 2 #[.val (.ref t), .unset] [(.int (1 : Int32))])) rfl rfl (hb hby d32_2) (by decide) (off := 32) rfl (by show (0 : Int) ≤ ((2 : Nat) : Int) + 32; decide)) ?_
  obtain ⟨T2, h2, X2, e2, E2, A2, D2, -, st2⟩ := newO X0 hx hZ hown (hw _ (List.mem_of_getElem? (i := 242) rfl)) (hw _ (List.mem_of_getElem? (i := 243) rfl)) (hw _ (List.mem_of_getElem? (i := 244) rfl)) e0 (g := (mkF m 34 #[.val (.ref t), .unset] [])) rfl (hb hby d32_34) (by decide) (by decide)
  obtain ⟨b2, g2⟩ : ∃ z, z = h0.size := ⟨_, rfl⟩
  rw [← g2] at A2 D2 st2
  have ne_t_b2 : t ≠ b2 := Nat.ne_of_lt (Nat.lt_of_lt_of_le V_t.lt (Nat.le_of_eq g2.symm))
  have ne_b2_t : b2 ≠ t := Ne.symm ne_t_b2
  have g_b2 : n0 ≤ b2 := Nat.le_trans Z0 (Nat.le_of_eq g2.symm)
  have sz_b2 : h0.size ≤ b2 := Nat.le_trans K.1 (Nat.le_of_eq g2.symm)
  have V_t := V_t.ext E2
  have O := O.ext E2
  have K := K.ext E2
  have Z0 : n0 ≤ h2.size := Nat.le_trans Z0 E2.1
  have E_b2 := A2
  have F_e0_b2 : Fld Z h2 b2 "java/util/ImmutableCollections$List12" "e0" "Ljava/lang/Object;" .null := D2 (Or.inr (hw _ (List.mem_of_getElem? (i := 267) rfl))) (ty := (.object "java/lang/Object")) (by decide)
  have F_e1_b2 : Fld Z h2 b2 "java/util/ImmutableCollections$List12" "e1" "Ljava/lang/Object;" .null := D2 (Or.inr (hw _ (List.mem_of_getElem? (i := 269) rfl))) (ty := (.object "java/lang/Object")) (by decide)
  refine own_st (V := T2.setTop (mkF m 37 #[.val (.ref t), .unset] [(.ref b2)])) st2 ?_
  refine own_st (V := T2.setTop (mkF m 38 #[.val (.ref t), .unset] [(.ref b2), (.ref b2)])) (fun _ hk => XS.dup X2.here hx rfl (hb hby d32_37) rfl rfl hk) ?_
  refine own_st (V := T2.setTop (mkF m 39 #[.val (.ref t), .unset] [(.ref t), (.ref b2), (.ref b2)])) (fun _ hk => XS.aloadN X2.here hx rfl (hb hby d32_38) rfl rfl hk) ?_
  refine own_st (V := T2.setTop (mkF m 40 #[.val (.ref t), .unset] [(.int (0 : Int32)), (.ref t), (.ref b2), (.ref b2)])) (fun _ hk => XS.iconst X2.here hx rfl (hb hby d32_39) hk) ?_
  obtain ⟨cl3, Ar3, q3, Sz3, Ng3, Hs3, Gs3⟩ := (id V_t : _)
  have hin3 : ¬ ((0 : Int32) < 0 ∨ cl3.slots.size ≤ ((0 : Int32)).toNatClampNeg) := inb_of Sz3 ⟨by decide, by decide⟩
  refine own_st (V := T2.setTop (mkF m 41 #[.val (.ref t), .unset] [(.ref y1), (.ref b2), (.ref b2)])) (X2.aaload hx (j := (0 : Int32)) (v := (.ref y1)) (by rw [e2]; exact Ar3.1) (State.isArrayOf_alike hZ.alike Ar3.2.1) rfl Ar3.2.2 hin3 (Hs3.at hin3 rfl) (g := (mkF m 40 #[.val (.ref t), .unset] [(.int (0 : Int32)), (.ref t), (.ref b2), (.ref b2)])) rfl rfl (hb hby d32_40)) ?_
  obtain ⟨_, _, ⟨T4, L4, k4, n4⟩, -, X4, ⟨Lc4, hQ4, l4, y4, z4⟩, st4⟩ := X2.specialBack hx (y := (⟨"java/util/ImmutableCollections$List12", "<init>", "(Ljava/lang/Object;)V"⟩ : MethodName)) rfl hown (mvT hZ (hw _ (List.mem_of_getElem? (i := 300) rfl))) (mvT hZ (hw _ (List.mem_of_getElem? (i := 301) rfl))) (mvT hZ (hw _ (List.mem_of_getElem? (i := 302) rfl))) (by decide) (backOf (W := 1) (rm_l12_1 l Z a0 hw [] b2 y1 _ _ dc el ea em mr kd ke h2 n0 Z0 O hT E_b2 F_e0_b2 F_e1_b2 g_b2) hZ (hw _ (List.mem_of_getElem? (i := 302) rfl)) (hw _ (List.mem_of_getElem? (i := 244) rfl)) (by decide) (by decide)) (g := (mkF m 41 #[.val (.ref t), .unset] [(.ref y1), (.ref b2), (.ref b2)])) rfl (by rw [hml]; rfl) (Steps.refl _) (a := b2) (argsL := [(.ref y1)]) (rest := [(.ref b2)]) (lenOf own_pd15 rfl) rfl (by show 2 * 0 + _ ≤ _; exact Nat.le_of_eq rfl) (hb hby d32_41) (fun _ _ => ⟨rfl, e2, (by decide : 1 + 0 ≤ _), (by decide : 2 + 0 ≤ _)⟩)
  dsimp only [Pt.U, Pt.locs, Pt.cells, Pt.slots] at X4 l4 y4 z4 st4 hQ4
  subst l4 y4 z4
  obtain ⟨rfl, N4q, Kc, G_0, G_1⟩ := hQ4
  have N4 := Fr.app N0 N4q
  refine own_tr (V := T4.setTop (mkF m 44 #[.val (.ref t), .unset] [(.ref b2)])) st4 ?_
  have V_t := V_t.keep Kc (ninS ne_t_b2 nin0)
  have E_b2 := E_b2.keep Kc
  have Z0 : n0 ≤ T4.heap.size := Nat.le_trans Z0 Kc.1
  have O := O.keep Kc (allS g_b2 all0)
  have K := K.trans Kc (allS (Or.inr sz_b2) all0)
  exact own_retA X4 hx Bd.notSynchronized Bd.returns rfl rfl (hb hby d32_44) (by decide) (by decide) (fun U hU hE => hF _ _ ⟨_, _, rfl, (by rw [hU]; exact ⟨_, rfl, N4, K, sz_b2, E_b2, G_0, G_1⟩), hE⟩)
theorem d33_0 : decode jdk_44_method_2_code 0 = .ok (.aload_n 0, 1) := by decide +kernel
theorem d33_1 : decode jdk_44_method_2_code 1 = .ok (.invokespecial 1, 3) := by decide +kernel
theorem d33_4 : decode jdk_44_method_2_code 4 = .ok (.aload_n 0, 1) := by decide +kernel
theorem d33_5 : decode jdk_44_method_2_code 5 = .ok (.aload_n 1, 1) := by decide +kernel
theorem d33_6 : decode jdk_44_method_2_code 6 = .ok (.invokestatic 7, 3) := by decide +kernel
theorem d33_9 : decode jdk_44_method_2_code 9 = .ok (.putfield 13, 3) := by decide +kernel
theorem d33_12 : decode jdk_44_method_2_code 12 = .ok (.aload_n 0, 1) := by decide +kernel
theorem d33_13 : decode jdk_44_method_2_code 13 = .ok (.aload_n 2, 1) := by decide +kernel
theorem d33_14 : decode jdk_44_method_2_code 14 = .ok (.invokestatic 7, 3) := by decide +kernel
theorem d33_17 : decode jdk_44_method_2_code 17 = .ok (.putfield 24, 3) := by decide +kernel
theorem d33_20 : decode jdk_44_method_2_code 20 = .ok (.return_, 1) := by decide +kernel
theorem own_ef_l12_2 (m : MethodId) (x0 : Addr) (x1 : Addr) (x2 : Addr) : entryFrame m #[(.ref x0), (.ref x1), (.ref x2)] 3 = mkF m 0 #[.val (.ref x0), .val (.ref x1), .val (.ref x2)] [] := by first | (simp [entryFrame, mkF, argsToLocals, Value.category]; done) | rfl
def Q_l12_2 (Z : State) (oa y1 y2 : Addr) (u1 u2 : Value) (dc el ea em mr : Addr) (kd ke : ClassId) (h0 : Heap) (n0 : Nat) (v : Option Value) (h : Heap) (L : List Loc) : Prop := v = none ∧ Fr n0 L ∧ Keep h0 h [oa] ∧ Fld Z h oa "java/util/ImmutableCollections$List12" "e0" "Ljava/lang/Object;" (.ref y1) ∧ Fld Z h oa "java/util/ImmutableCollections$List12" "e1" "Ljava/lang/Object;" (.ref y2)
set_option maxRecDepth 65536 in
set_option maxHeartbeats 40000000 in
theorem rm_l12_2 (l : Launch) (Z : State) (a0 : Array Value) (hw : ∀ d ∈ tables_1, d.before a0 Z = true) (ws : List Jvm.Cond) (oa y1 y2 : Addr) (u1 u2 : Value) (dc el ea em mr : Addr) (kd ke : ClassId) (h0 : Heap) (n0 : Nat) (Z0 : n0 ≤ h0.size) (O : Old Z n0 h0) (hT : own_ST Z dc el ea em mr kd ke) (E_a : Exa Z h0 oa "java/util/ImmutableCollections$List12") (F_0 : Fld Z h0 oa "java/util/ImmutableCollections$List12" "e0" "Ljava/lang/Object;" u1) (F_1 : Fld Z h0 oa "java/util/ImmutableCollections$List12" "e1" "Ljava/lang/Object;" u2) (g_oa : n0 ≤ oa) :
    MetFree l (⟨"java/util/ImmutableCollections$List12", "<init>", "(Ljava/lang/Object;Ljava/lang/Object;)V"⟩ : MethodName) (head1 (Jvm.Cond.code (⟨"java/util/ImmutableCollections$List12", "<init>", "(Ljava/lang/Object;Ljava/lang/Object;)V"⟩ : MethodName) jdk_44_method_2_code 3 none :: ws) ({ frames := 4, cells := 0, slots := 0, locals := 48 } : Room)) (fun a U => a = #[(.ref oa), (.ref y1), (.ref y2)] ∧ Z.Warmed39 U.vm ∧ U.heap = h0) (fun _ _ _ _ _ => True) (fun _ U o U' => ∃ v L, o = .returned v ∧ Q_l12_2 Z oa y1 y2 u1 u2 dc el ea em mr kd ke h0 n0 v U'.heap L ∧ FrameEnd U o U' L ({ frames := 4, cells := 0, slots := 0, locals := 48 } : Room).cells ({ frames := 4, cells := 0, slots := 0, locals := 48 } : Room).slots) := by
  refine MetFree.of_bodySF (plainFor_of_name own_pn_java_util_ImmutableCollections_List12) hisR ?_
  intro p e s m args below meth c s₁ Bd hml0 hP hK
  obtain ⟨rfl, hZ, hh⟩ := hP
  have hx := Bd.exec
  have hby := Bd.bytes
  have hml : c.maxLocals = 3 := hml0
  have hown : s.vm.findClass "java/util/ImmutableCollections$List12" = some m.cls := findClass_of_methodNamed Bd.named
  have hnm := (name_of_methodNamed Bd.named Bd.method).1
  have X0 : Stand p l e ({ frames := 4, cells := 0, slots := 0, locals := 48 } : Room) s m #[(.ref oa), (.ref y1), (.ref y2)] below meth c s₁ [] 0 0 := Stand.of_body Bd
  have e0 : s₁.heap = h0 := by rw [← hh, Bd.state]; rfl
  have N0 := Fr.nil n0
  refine own_start (F0 := fun o U' => ∃ v L, o = .returned v ∧ Q_l12_2 Z oa y1 y2 u1 u2 dc el ea em mr kd ke h0 n0 v U'.heap L ∧ FrameEnd s o U' L ({ frames := 4, cells := 0, slots := 0, locals := 48 } : Room).cells ({ frames := 4, cells := 0, slots := 0, locals := 48 } : Room).slots) fun F hF => ?_
  rw [own_ef_l12_2 m oa y1 y2]
  have K := Keep.refl h0 [oa]
  obtain ⟨Sdc, Vdc, Sel, Eel, Fel, Vea, Sem, Eem, hM⟩ := hT
  refine own_st (V := s₁.setTop (mkF m 1 #[.val (.ref oa), .val (.ref y1), .val (.ref y2)] [(.ref oa)])) (fun _ hk => XS.aloadN X0.here hx rfl (hb hby d33_0) rfl rfl hk) ?_
  obtain ⟨_, _, ⟨T1, L1, k1, n1⟩, -, X1, ⟨Lc1, hQ1, l1, y1, z1⟩, st1⟩ := X0.specialBack hx (y := (⟨"java/util/ImmutableCollections$AbstractImmutableList", "<init>", "()V"⟩ : MethodName)) rfl hown (mvT hZ (hw _ (List.mem_of_getElem? (i := 249) rfl))) (mvT hZ (hw _ (List.mem_of_getElem? (i := 250) rfl))) (mvT hZ (hw _ (List.mem_of_getElem? (i := 254) rfl))) (by decide) (backOf (W := 0) (rm_ailInit l Z a0 hw [] oa h0 n0 Z0) hZ (hw _ (List.mem_of_getElem? (i := 254) rfl)) (hw _ (List.mem_of_getElem? (i := 253) rfl)) (by decide) (by decide)) (g := (mkF m 1 #[.val (.ref oa), .val (.ref y1), .val (.ref y2)] [(.ref oa)])) rfl (by rw [hml]; rfl) (Steps.refl _) (a := oa) (argsL := []) (rest := []) (lenOf own_pd6 rfl) rfl (by show 2 * 0 + _ ≤ _; exact Nat.le_of_eq rfl) (hb hby d33_1) (fun _ _ => ⟨rfl, e0, (by decide : 0 + 0 ≤ _), (by decide : 0 + 0 ≤ _)⟩)
  dsimp only [Pt.U, Pt.locs, Pt.cells, Pt.slots] at X1 l1 y1 z1 st1 hQ1
  subst l1 y1 z1
  obtain ⟨rfl, N1q, es1⟩ := hQ1
  have N1 := Fr.app N0 N1q
  refine own_tr (V := T1.setTop (mkF m 4 #[.val (.ref oa), .val (.ref y1), .val (.ref y2)] [])) st1 ?_
  refine own_st (V := T1.setTop (mkF m 5 #[.val (.ref oa), .val (.ref y1), .val (.ref y2)] [(.ref oa)])) (fun _ hk => XS.aloadN X1.here hx rfl (hb hby d33_4) rfl rfl hk) ?_
  refine own_st (V := T1.setTop (mkF m 6 #[.val (.ref oa), .val (.ref y1), .val (.ref y2)] [(.ref y1), (.ref oa)])) (fun _ hk => XS.aloadN X1.here hx rfl (hb hby d33_5) rfl rfl hk) ?_
  obtain ⟨_, _, ⟨T2, L2, k2, n2⟩, -, X2, ⟨Lc2, hQ2, l2, y2, z2⟩, st2⟩ := Jvm.LawKit.callS X1 hx (y := (⟨"java/util/Objects", "requireNonNull", "(Ljava/lang/Object;)Ljava/lang/Object;"⟩ : MethodName)) hown (mvT hZ (hw _ (List.mem_of_getElem? (i := 263) rfl))) (mvT hZ (hw _ (List.mem_of_getElem? (i := 264) rfl))) (mvT hZ (hw _ (List.mem_of_getElem? (i := 90) rfl))) (mvT hZ (hw _ (List.mem_of_getElem? (i := 265) rfl))) (by decide) (backOf (W := 1) (rm_nonnull1 l Z a0 hw [] y1 h0 n0 Z0) hZ (hw _ (List.mem_of_getElem? (i := 265) rfl)) (hw _ (List.mem_of_getElem? (i := 90) rfl)) (by decide) (by decide)) (g := (mkF m 6 #[.val (.ref oa), .val (.ref y1), .val (.ref y2)] [(.ref y1), (.ref oa)])) rfl (by rw [hml]; rfl) (argsL := [(.ref y1)]) (rest := [(.ref oa)]) (lenOf own_pd14 rfl) rfl (by show 2 * 0 + _ ≤ _; exact Nat.le_of_eq rfl) (hb hby d33_6) (fun _ _ => ⟨rfl, es1, (by decide : 0 + 0 ≤ _), (by decide : 0 + 0 ≤ _)⟩)
  dsimp only [Pt.U, Pt.locs, Pt.cells, Pt.slots] at X2 l2 y2 z2 st2 hQ2
  subst l2 y2 z2
  obtain ⟨rfl, N2q, es2⟩ := hQ2
  have N2 := Fr.app N1 N2q
  refine own_st (V := T2.setTop (mkF m 9 #[.val (.ref oa), .val (.ref y1), .val (.ref y2)] [(.ref y1), (.ref oa)])) st2 ?_
  obtain ⟨T3, h3, X3, e3, W3, st3⟩ := putF X2 hx hZ hown (host := "") (Or.inl (hw _ (List.mem_of_getElem? (i := 266) rfl))) Via.refl es2 F_0 E_a (Or.inr ⟨(hw _ (List.mem_of_getElem? (i := 267) rfl)), rfl, hnm⟩) (hw _ (List.mem_of_getElem? (i := 243) rfl)) (ty := (.object "java/lang/Object")) (by decide) rfl rfl (g := (mkF m 9 #[.val (.ref oa), .val (.ref y1), .val (.ref y2)] [(.ref y1), (.ref oa)])) rfl rfl (hb hby d33_9)
  have E_a := E_a.wr W3
  have F_1 := F_1.other W3 (Or.inr (slot_ne (Or.inr (hw _ (List.mem_of_getElem? (i := 269) rfl))) (Or.inr (hw _ (List.mem_of_getElem? (i := 267) rfl))) (by decide) (t := (.object "java/lang/Object")) (t' := (.object "java/lang/Object")) (by decide) (by decide)))
  have F_0 := F_0.same W3
  have K := K.wr W3 (Or.inl (List.mem_of_getElem? (i := 0) rfl))
  have N3 := Fr.snoc X3 N2 g_oa
  have O := O.wr W3 g_oa
  have Z0 : n0 ≤ h3.size := Nat.le_trans Z0 (Keep.of_wr W3).1
  refine own_st (V := T3.setTop (mkF m 12 #[.val (.ref oa), .val (.ref y1), .val (.ref y2)] [])) st3 ?_
  refine own_st (V := T3.setTop (mkF m 13 #[.val (.ref oa), .val (.ref y1), .val (.ref y2)] [(.ref oa)])) (fun _ hk => XS.aloadN X3.here hx rfl (hb hby d33_12) rfl rfl hk) ?_
  refine own_st (V := T3.setTop (mkF m 14 #[.val (.ref oa), .val (.ref y1), .val (.ref y2)] [(.ref y2), (.ref oa)])) (fun _ hk => XS.aloadN X3.here hx rfl (hb hby d33_13) rfl rfl hk) ?_
  obtain ⟨_, _, ⟨T4, L4, k4, n4⟩, -, X4, ⟨Lc4, hQ4, l4, y4, z4⟩, st4⟩ := Jvm.LawKit.callS X3 hx (y := (⟨"java/util/Objects", "requireNonNull", "(Ljava/lang/Object;)Ljava/lang/Object;"⟩ : MethodName)) hown (mvT hZ (hw _ (List.mem_of_getElem? (i := 263) rfl))) (mvT hZ (hw _ (List.mem_of_getElem? (i := 264) rfl))) (mvT hZ (hw _ (List.mem_of_getElem? (i := 90) rfl))) (mvT hZ (hw _ (List.mem_of_getElem? (i := 265) rfl))) (by decide) (backOf (W := 1) (rm_nonnull1 l Z a0 hw [] y2 h3 n0 Z0) hZ (hw _ (List.mem_of_getElem? (i := 265) rfl)) (hw _ (List.mem_of_getElem? (i := 90) rfl)) (by decide) (by decide)) (g := (mkF m 14 #[.val (.ref oa), .val (.ref y1), .val (.ref y2)] [(.ref y2), (.ref oa)])) rfl (by rw [hml]; rfl) (argsL := [(.ref y2)]) (rest := [(.ref oa)]) (lenOf own_pd14 rfl) rfl (by show 2 * 0 + _ ≤ _; exact Nat.le_of_eq rfl) (hb hby d33_14) (fun _ _ => ⟨rfl, e3, (by decide : 0 + 0 ≤ _), (by decide : 0 + 0 ≤ _)⟩)
  dsimp only [Pt.U, Pt.locs, Pt.cells, Pt.slots] at X4 l4 y4 z4 st4 hQ4
  subst l4 y4 z4
  obtain ⟨rfl, N4q, es4⟩ := hQ4
  have N4 := Fr.app N3 N4q
  refine own_st (V := T4.setTop (mkF m 17 #[.val (.ref oa), .val (.ref y1), .val (.ref y2)] [(.ref y2), (.ref oa)])) st4 ?_
  obtain ⟨T5, h5, X5, e5, W5, st5⟩ := putF X4 hx hZ hown (host := "") (Or.inl (hw _ (List.mem_of_getElem? (i := 268) rfl))) Via.refl es4 F_1 E_a (Or.inr ⟨(hw _ (List.mem_of_getElem? (i := 269) rfl)), rfl, hnm⟩) (hw _ (List.mem_of_getElem? (i := 243) rfl)) (ty := (.object "java/lang/Object")) (by decide) rfl rfl (g := (mkF m 17 #[.val (.ref oa), .val (.ref y1), .val (.ref y2)] [(.ref y2), (.ref oa)])) rfl rfl (hb hby d33_17)
  have E_a := E_a.wr W5
  have F_0 := F_0.other W5 (Or.inr (slot_ne (Or.inr (hw _ (List.mem_of_getElem? (i := 267) rfl))) (Or.inr (hw _ (List.mem_of_getElem? (i := 269) rfl))) (by decide) (t := (.object "java/lang/Object")) (t' := (.object "java/lang/Object")) (by decide) (by decide)))
  have F_1 := F_1.same W5
  have K := K.wr W5 (Or.inl (List.mem_of_getElem? (i := 0) rfl))
  have N5 := Fr.snoc X5 N4 g_oa
  have O := O.wr W5 g_oa
  have Z0 : n0 ≤ h5.size := Nat.le_trans Z0 (Keep.of_wr W5).1
  refine own_st (V := T5.setTop (mkF m 20 #[.val (.ref oa), .val (.ref y1), .val (.ref y2)] [])) st5 ?_
  exact own_retV X5 hx Bd.notSynchronized Bd.returns (hb hby d33_20) (by decide) (by decide) (fun U hU hE => hF _ _ ⟨_, _, rfl, (by rw [hU, e5]; exact ⟨rfl, N5, K, F_0, F_1⟩), hE⟩)
theorem d32_45 : decode jdk_40_method_47_code 45 = .ok (.new 96, 3) := by decide +kernel
theorem d32_48 : decode jdk_40_method_47_code 48 = .ok (.dup, 1) := by decide +kernel
theorem d32_49 : decode jdk_40_method_47_code 49 = .ok (.aload_n 0, 1) := by decide +kernel
theorem d32_50 : decode jdk_40_method_47_code 50 = .ok (.iconst 0, 1) := by decide +kernel
theorem d32_51 : decode jdk_40_method_47_code 51 = .ok (.aaload, 1) := by decide +kernel
theorem d32_52 : decode jdk_40_method_47_code 52 = .ok (.aload_n 0, 1) := by decide +kernel
theorem d32_53 : decode jdk_40_method_47_code 53 = .ok (.iconst 1, 1) := by decide +kernel
theorem d32_54 : decode jdk_40_method_47_code 54 = .ok (.aaload, 1) := by decide +kernel
theorem d32_55 : decode jdk_40_method_47_code 55 = .ok (.invokespecial 100, 3) := by decide +kernel
theorem own_pd16 : parseMethodDescriptor "(Ljava/lang/Object;Ljava/lang/Object;)V" = some ⟨[(.object "java/lang/Object"), (.object "java/lang/Object")], none⟩ := by decide +kernel
theorem d32_58 : decode jdk_40_method_47_code 58 = .ok (.areturn, 1) := by decide +kernel
theorem own_ef_of_2 (m : MethodId) (x0 : Addr) : entryFrame m #[(.ref x0)] 2 = mkF m 0 #[.val (.ref x0), .unset] [] := by first | (simp [entryFrame, mkF, argsToLocals, Value.category]; done) | rfl
def Q_of_2 (Z : State) (t y1 y2 : Addr) (kt : ClassId) (dc el ea em mr : Addr) (kd ke : ClassId) (h0 : Heap) (n0 : Nat) (v : Option Value) (h : Heap) (L : List Loc) : Prop := ∃ r : Addr, v = some (.ref r) ∧ Fr n0 L ∧ Keep h0 h [] ∧ h0.size ≤ r ∧ Exa Z h r "java/util/ImmutableCollections$List12" ∧ Fld Z h r "java/util/ImmutableCollections$List12" "e0" "Ljava/lang/Object;" (.ref y1) ∧ Fld Z h r "java/util/ImmutableCollections$List12" "e1" "Ljava/lang/Object;" (.ref y2)
set_option maxRecDepth 65536 in
set_option maxHeartbeats 40000000 in
theorem rm_of_2 (l : Launch) (Z : State) (a0 : Array Value) (hw : ∀ d ∈ tables_1, d.before a0 Z = true) (ws : List Jvm.Cond) (t y1 y2 : Addr) (kt : ClassId) (dc el ea em mr : Addr) (kd ke : ClassId) (h0 : Heap) (n0 : Nat) (Z0 : n0 ≤ h0.size) (O : Old Z n0 h0) (hT : own_ST Z dc el ea em mr kd ke) (V_t : Arv Z h0 t kt (.object "java/lang/Object") (2 : Int32) [(.ref y1), (.ref y2)] .null) :
    MetFree l (⟨"java/util/List", "of", "([Ljava/lang/Object;)Ljava/util/List;"⟩ : MethodName) (head1 (Jvm.Cond.code (⟨"java/util/List", "of", "([Ljava/lang/Object;)Ljava/util/List;"⟩ : MethodName) jdk_40_method_47_code 2 (some (.object "java/util/List")) :: ws) ({ frames := 5, cells := 1, slots := 2, locals := 63 } : Room)) (fun a U => a = #[(.ref t)] ∧ Z.Warmed39 U.vm ∧ U.heap = h0) (fun _ _ _ _ _ => True) (fun _ U o U' => ∃ v L, o = .returned v ∧ Q_of_2 Z t y1 y2 kt dc el ea em mr kd ke h0 n0 v U'.heap L ∧ FrameEnd U o U' L ({ frames := 5, cells := 1, slots := 2, locals := 63 } : Room).cells ({ frames := 5, cells := 1, slots := 2, locals := 63 } : Room).slots) := by
  refine MetFree.of_bodySF (plainFor_of_name own_pn_java_util_List) hisR ?_
  intro p e s m args below meth c s₁ Bd hml0 hP hK
  obtain ⟨rfl, hZ, hh⟩ := hP
  have hx := Bd.exec
  have hby := Bd.bytes
  have hml : c.maxLocals = 2 := hml0
  have hown : s.vm.findClass "java/util/List" = some m.cls := findClass_of_methodNamed Bd.named
  have hnm := (name_of_methodNamed Bd.named Bd.method).1
  have X0 : Stand p l e ({ frames := 5, cells := 1, slots := 2, locals := 63 } : Room) s m #[(.ref t)] below meth c s₁ [] 0 0 := Stand.of_body Bd
  have e0 : s₁.heap = h0 := by rw [← hh, Bd.state]; rfl
  have N0 := Fr.nil n0
  refine own_start (F0 := fun o U' => ∃ v L, o = .returned v ∧ Q_of_2 Z t y1 y2 kt dc el ea em mr kd ke h0 n0 v U'.heap L ∧ FrameEnd s o U' L ({ frames := 5, cells := 1, slots := 2, locals := 63 } : Room).cells ({ frames := 5, cells := 1, slots := 2, locals := 63 } : Room).slots) fun F hF => ?_
  rw [own_ef_of_2 m t]
  have K := Keep.refl h0 []
  refine own_st (V := s₁.setTop (mkF m 1 #[.val (.ref t), .unset] [(.ref t)])) (fun _ hk => XS.aloadN X0.here hx rfl (hb hby d32_0) rfl rfl hk) ?_
  obtain ⟨cl1, Ar1, -, Sz1, Ng1, -, -⟩ := (id V_t : _)
  refine own_st (V := s₁.setTop (mkF m 2 #[.val (.ref t), .unset] [(.int cl1.slots.size.toInt32)])) (X0.arraylength hx (by rw [e0]; exact Ar1.1) (State.isArrayOf_alike hZ.alike Ar1.2.1) (g := (mkF m 1 #[.val (.ref t), .unset] [(.ref t)])) rfl rfl (hb hby d32_1)) ?_
  rw [len_of Sz1 Ng1]
  refine own_st (V := s₁.setTop (mkF m 45 #[.val (.ref t), .unset] [])) (X0.tableswitchIn hx (g := (mkF m 2 #[.val (.ref t), .unset] [(.int (2 : Int32))])) rfl rfl (hb hby d32_2) (by decide) (off := 43) rfl (by show (0 : Int) ≤ ((2 : Nat) : Int) + 43; decide)) ?_
  obtain ⟨T2, h2, X2, e2, E2, A2, D2, -, st2⟩ := newO X0 hx hZ hown (hw _ (List.mem_of_getElem? (i := 242) rfl)) (hw _ (List.mem_of_getElem? (i := 243) rfl)) (hw _ (List.mem_of_getElem? (i := 244) rfl)) e0 (g := (mkF m 45 #[.val (.ref t), .unset] [])) rfl (hb hby d32_45) (by decide) (by decide)
  obtain ⟨b2, g2⟩ : ∃ z, z = h0.size := ⟨_, rfl⟩
  rw [← g2] at A2 D2 st2
  have ne_t_b2 : t ≠ b2 := Nat.ne_of_lt (Nat.lt_of_lt_of_le V_t.lt (Nat.le_of_eq g2.symm))
  have ne_b2_t : b2 ≠ t := Ne.symm ne_t_b2
  have g_b2 : n0 ≤ b2 := Nat.le_trans Z0 (Nat.le_of_eq g2.symm)
  have sz_b2 : h0.size ≤ b2 := Nat.le_trans K.1 (Nat.le_of_eq g2.symm)
  have V_t := V_t.ext E2
  have O := O.ext E2
  have K := K.ext E2
  have Z0 : n0 ≤ h2.size := Nat.le_trans Z0 E2.1
  have E_b2 := A2
  have F_e0_b2 : Fld Z h2 b2 "java/util/ImmutableCollections$List12" "e0" "Ljava/lang/Object;" .null := D2 (Or.inr (hw _ (List.mem_of_getElem? (i := 267) rfl))) (ty := (.object "java/lang/Object")) (by decide)
  have F_e1_b2 : Fld Z h2 b2 "java/util/ImmutableCollections$List12" "e1" "Ljava/lang/Object;" .null := D2 (Or.inr (hw _ (List.mem_of_getElem? (i := 269) rfl))) (ty := (.object "java/lang/Object")) (by decide)
  refine own_st (V := T2.setTop (mkF m 48 #[.val (.ref t), .unset] [(.ref b2)])) st2 ?_
  refine own_st (V := T2.setTop (mkF m 49 #[.val (.ref t), .unset] [(.ref b2), (.ref b2)])) (fun _ hk => XS.dup X2.here hx rfl (hb hby d32_48) rfl rfl hk) ?_
  refine own_st (V := T2.setTop (mkF m 50 #[.val (.ref t), .unset] [(.ref t), (.ref b2), (.ref b2)])) (fun _ hk => XS.aloadN X2.here hx rfl (hb hby d32_49) rfl rfl hk) ?_
  refine own_st (V := T2.setTop (mkF m 51 #[.val (.ref t), .unset] [(.int (0 : Int32)), (.ref t), (.ref b2), (.ref b2)])) (fun _ hk => XS.iconst X2.here hx rfl (hb hby d32_50) hk) ?_
  obtain ⟨cl3, Ar3, q3, Sz3, Ng3, Hs3, Gs3⟩ := (id V_t : _)
  have hin3 : ¬ ((0 : Int32) < 0 ∨ cl3.slots.size ≤ ((0 : Int32)).toNatClampNeg) := inb_of Sz3 ⟨by decide, by decide⟩
  refine own_st (V := T2.setTop (mkF m 52 #[.val (.ref t), .unset] [(.ref y1), (.ref b2), (.ref b2)])) (X2.aaload hx (j := (0 : Int32)) (v := (.ref y1)) (by rw [e2]; exact Ar3.1) (State.isArrayOf_alike hZ.alike Ar3.2.1) rfl Ar3.2.2 hin3 (Hs3.at hin3 rfl) (g := (mkF m 51 #[.val (.ref t), .unset] [(.int (0 : Int32)), (.ref t), (.ref b2), (.ref b2)])) rfl rfl (hb hby d32_51)) ?_
  refine own_st (V := T2.setTop (mkF m 53 #[.val (.ref t), .unset] [(.ref t), (.ref y1), (.ref b2), (.ref b2)])) (fun _ hk => XS.aloadN X2.here hx rfl (hb hby d32_52) rfl rfl hk) ?_
  refine own_st (V := T2.setTop (mkF m 54 #[.val (.ref t), .unset] [(.int (1 : Int32)), (.ref t), (.ref y1), (.ref b2), (.ref b2)])) (fun _ hk => XS.iconst X2.here hx rfl (hb hby d32_53) hk) ?_
  obtain ⟨cl4, Ar4, q4, Sz4, Ng4, Hs4, Gs4⟩ := (id V_t : _)
  have hin4 : ¬ ((1 : Int32) < 0 ∨ cl4.slots.size ≤ ((1 : Int32)).toNatClampNeg) := inb_of Sz4 ⟨by decide, by decide⟩
  refine own_st (V := T2.setTop (mkF m 55 #[.val (.ref t), .unset] [(.ref y2), (.ref y1), (.ref b2), (.ref b2)])) (X2.aaload hx (j := (1 : Int32)) (v := (.ref y2)) (by rw [e2]; exact Ar4.1) (State.isArrayOf_alike hZ.alike Ar4.2.1) rfl Ar4.2.2 hin4 (Hs4.at hin4 rfl) (g := (mkF m 54 #[.val (.ref t), .unset] [(.int (1 : Int32)), (.ref t), (.ref y1), (.ref b2), (.ref b2)])) rfl rfl (hb hby d32_54)) ?_
  obtain ⟨_, _, ⟨T5, L5, k5, n5⟩, -, X5, ⟨Lc5, hQ5, l5, y5, z5⟩, st5⟩ := X2.specialBack hx (y := (⟨"java/util/ImmutableCollections$List12", "<init>", "(Ljava/lang/Object;Ljava/lang/Object;)V"⟩ : MethodName)) rfl hown (mvT hZ (hw _ (List.mem_of_getElem? (i := 245) rfl))) (mvT hZ (hw _ (List.mem_of_getElem? (i := 246) rfl))) (mvT hZ (hw _ (List.mem_of_getElem? (i := 248) rfl))) (by decide) (backOf (W := 1) (rm_l12_2 l Z a0 hw [] b2 y1 y2 _ _ dc el ea em mr kd ke h2 n0 Z0 O hT E_b2 F_e0_b2 F_e1_b2 g_b2) hZ (hw _ (List.mem_of_getElem? (i := 248) rfl)) (hw _ (List.mem_of_getElem? (i := 244) rfl)) (by decide) (by decide)) (g := (mkF m 55 #[.val (.ref t), .unset] [(.ref y2), (.ref y1), (.ref b2), (.ref b2)])) rfl (by rw [hml]; rfl) (Steps.refl _) (a := b2) (argsL := [(.ref y1), (.ref y2)]) (rest := [(.ref b2)]) (lenOf own_pd16 rfl) rfl (by show 2 * 0 + _ ≤ _; exact Nat.le_of_eq rfl) (hb hby d32_55) (fun _ _ => ⟨rfl, e2, (by decide : 1 + 0 ≤ _), (by decide : 2 + 0 ≤ _)⟩)
  dsimp only [Pt.U, Pt.locs, Pt.cells, Pt.slots] at X5 l5 y5 z5 st5 hQ5
  subst l5 y5 z5
  obtain ⟨rfl, N5q, Kc, G_0, G_1⟩ := hQ5
  have N5 := Fr.app N0 N5q
  refine own_tr (V := T5.setTop (mkF m 58 #[.val (.ref t), .unset] [(.ref b2)])) st5 ?_
  have V_t := V_t.keep Kc (ninS ne_t_b2 nin0)
  have E_b2 := E_b2.keep Kc
  have Z0 : n0 ≤ T5.heap.size := Nat.le_trans Z0 Kc.1
  have O := O.keep Kc (allS g_b2 all0)
  have K := K.trans Kc (allS (Or.inr sz_b2) all0)
  exact own_retA X5 hx Bd.notSynchronized Bd.returns rfl rfl (hb hby d32_58) (by decide) (by decide) (fun U hU hE => hF _ _ ⟨_, _, rfl, (by rw [hU]; exact ⟨_, rfl, N5, K, sz_b2, E_b2, G_0, G_1⟩), hE⟩)
theorem d20_0 : decode jdk_40_method_36_code 0 = .ok (.getstatic 90, 3) := by decide +kernel
theorem d20_3 : decode jdk_40_method_36_code 3 = .ok (.areturn, 1) := by decide +kernel
theorem own_ef_of_0 (m : MethodId)  : entryFrame m #[] 0 = mkF m 0 #[] [] := by first | (simp [entryFrame, mkF, argsToLocals, Value.category]; done) | rfl
def Q_of_0 (Z : State) (dc el ea em mr : Addr) (kd ke : ClassId) (h0 : Heap) (n0 : Nat) (v : Option Value) (h : Heap) (L : List Loc) : Prop := v = some (.ref el) ∧ Fr n0 L ∧ h = h0
set_option maxRecDepth 65536 in
set_option maxHeartbeats 40000000 in
theorem rm_of_0 (l : Launch) (Z : State) (a0 : Array Value) (hw : ∀ d ∈ tables_1, d.before a0 Z = true) (ws : List Jvm.Cond) (dc el ea em mr : Addr) (kd ke : ClassId) (h0 : Heap) (n0 : Nat) (Z0 : n0 ≤ h0.size) (O : Old Z n0 h0) (hT : own_ST Z dc el ea em mr kd ke) :
    MetFree l (⟨"java/util/List", "of", "()Ljava/util/List;"⟩ : MethodName) (head1 (Jvm.Cond.code (⟨"java/util/List", "of", "()Ljava/util/List;"⟩ : MethodName) jdk_40_method_36_code 0 (some (.object "java/util/List")) :: ws) ({ frames := 0, cells := 0, slots := 0, locals := 0 } : Room)) (fun a U => a = #[] ∧ Z.Warmed39 U.vm ∧ U.heap = h0) (fun _ _ _ _ _ => True) (fun _ U o U' => ∃ v L, o = .returned v ∧ Q_of_0 Z dc el ea em mr kd ke h0 n0 v U'.heap L ∧ FrameEnd U o U' L ({ frames := 0, cells := 0, slots := 0, locals := 0 } : Room).cells ({ frames := 0, cells := 0, slots := 0, locals := 0 } : Room).slots) := by
  refine MetFree.of_bodySF (plainFor_of_name own_pn_java_util_List) hisR ?_
  intro p e s m args below meth c s₁ Bd hml0 hP hK
  obtain ⟨rfl, hZ, hh⟩ := hP
  have hx := Bd.exec
  have hby := Bd.bytes
  have hml : c.maxLocals = 0 := hml0
  have hown : s.vm.findClass "java/util/List" = some m.cls := findClass_of_methodNamed Bd.named
  have hnm := (name_of_methodNamed Bd.named Bd.method).1
  have X0 : Stand p l e ({ frames := 0, cells := 0, slots := 0, locals := 0 } : Room) s m #[] below meth c s₁ [] 0 0 := Stand.of_body Bd
  have e0 : s₁.heap = h0 := by rw [← hh, Bd.state]; rfl
  have N0 := Fr.nil n0
  refine own_start (F0 := fun o U' => ∃ v L, o = .returned v ∧ Q_of_0 Z dc el ea em mr kd ke h0 n0 v U'.heap L ∧ FrameEnd s o U' L ({ frames := 0, cells := 0, slots := 0, locals := 0 } : Room).cells ({ frames := 0, cells := 0, slots := 0, locals := 0 } : Room).slots) fun F hF => ?_
  rw [own_ef_of_0 m ]
  obtain ⟨Sdc, Vdc, Sel, Eel, Fel, Vea, Sem, Eem, hM⟩ := hT
  obtain ⟨T1, X1, e1, st1⟩ := getS2 X0 hx hZ hown (host := "") (Or.inl (hw _ (List.mem_of_getElem? (i := 156) rfl))) Via.refl e0 (Sel.ext O.2) (g := (mkF m 0 #[] [])) rfl (hb hby d20_0)
  refine own_st (V := T1.setTop (mkF m 3 #[] [(.ref el)])) st1 ?_
  exact own_retA X1 hx Bd.notSynchronized Bd.returns rfl rfl (hb hby d20_3) (by decide) (by decide) (fun U hU hE => hF _ _ ⟨_, _, rfl, (by rw [hU, e1]; exact ⟨rfl, N0, rfl⟩), hE⟩)
theorem d19_0 : decode jdk_38_method_9_code 0 = .ok (.aload_n 0, 1) := by decide +kernel
theorem d19_1 : decode jdk_38_method_9_code 1 = .ok (.getfield 48, 3) := by decide +kernel
theorem d19_4 : decode jdk_38_method_9_code 4 = .ok (.ifCond .ne 7, 3) := by decide +kernel
theorem d19_7 : decode jdk_38_method_9_code 7 = .ok (.iconst 1, 1) := by decide +kernel
theorem d19_8 : decode jdk_38_method_9_code 8 = .ok (.goto 4, 3) := by decide +kernel
theorem d19_12 : decode jdk_38_method_9_code 12 = .ok (.ireturn, 1) := by decide +kernel
theorem own_ef_isEmp0 (m : MethodId) (x0 : Addr) : entryFrame m #[(.ref x0)] 1 = mkF m 0 #[.val (.ref x0)] [] := by first | (simp [entryFrame, mkF, argsToLocals, Value.category]; done) | rfl
def Q_isEmp0 (Z : State) (oa : Addr) (h0 : Heap) (n0 : Nat) (v : Option Value) (h : Heap) (L : List Loc) : Prop := v = some (.int 1) ∧ Fr n0 L ∧ h = h0
set_option maxRecDepth 65536 in
set_option maxHeartbeats 40000000 in
theorem rm_isEmp0 (l : Launch) (Z : State) (a0 : Array Value) (hw : ∀ d ∈ tables_1, d.before a0 Z = true) (ws : List Jvm.Cond) (oa : Addr) (h0 : Heap) (n0 : Nat) (Z0 : n0 ≤ h0.size) (F_z : Fld Z h0 oa "java/util/ArrayList" "size" "I" (.int 0)) :
    MetFree l (⟨"java/util/ArrayList", "isEmpty", "()Z"⟩ : MethodName) (head1 (Jvm.Cond.code (⟨"java/util/ArrayList", "isEmpty", "()Z"⟩ : MethodName) jdk_38_method_9_code 1 (some .boolean) :: ws) ({ frames := 0, cells := 0, slots := 0, locals := 0 } : Room)) (fun a U => a = #[(.ref oa)] ∧ Z.Warmed39 U.vm ∧ U.heap = h0) (fun _ _ _ _ _ => True) (fun _ U o U' => ∃ v L, o = .returned v ∧ Q_isEmp0 Z oa h0 n0 v U'.heap L ∧ FrameEnd U o U' L ({ frames := 0, cells := 0, slots := 0, locals := 0 } : Room).cells ({ frames := 0, cells := 0, slots := 0, locals := 0 } : Room).slots) := by
  refine MetFree.of_bodySF (plainFor_of_name own_pn_java_util_ArrayList) hisR ?_
  intro p e s m args below meth c s₁ Bd hml0 hP hK
  obtain ⟨rfl, hZ, hh⟩ := hP
  have hx := Bd.exec
  have hby := Bd.bytes
  have hml : c.maxLocals = 1 := hml0
  have hown : s.vm.findClass "java/util/ArrayList" = some m.cls := findClass_of_methodNamed Bd.named
  have hnm := (name_of_methodNamed Bd.named Bd.method).1
  have X0 : Stand p l e ({ frames := 0, cells := 0, slots := 0, locals := 0 } : Room) s m #[(.ref oa)] below meth c s₁ [] 0 0 := Stand.of_body Bd
  have e0 : s₁.heap = h0 := by rw [← hh, Bd.state]; rfl
  have N0 := Fr.nil n0
  refine own_start (F0 := fun o U' => ∃ v L, o = .returned v ∧ Q_isEmp0 Z oa h0 n0 v U'.heap L ∧ FrameEnd s o U' L ({ frames := 0, cells := 0, slots := 0, locals := 0 } : Room).cells ({ frames := 0, cells := 0, slots := 0, locals := 0 } : Room).slots) fun F hF => ?_
  rw [own_ef_isEmp0 m oa]
  refine own_st (V := s₁.setTop (mkF m 1 #[.val (.ref oa)] [(.ref oa)])) (fun _ hk => XS.aloadN X0.here hx rfl (hb hby d19_0) rfl rfl hk) ?_
  obtain ⟨T1, X1, e1, st1⟩ := getF X0 hx hZ hown (host := "") (Or.inl (hw _ (List.mem_of_getElem? (i := 151) rfl))) Via.refl e0 F_z (g := (mkF m 1 #[.val (.ref oa)] [(.ref oa)])) rfl rfl (hb hby d19_1)
  refine own_st (V := T1.setTop (mkF m 4 #[.val (.ref oa)] [(.int (0 : Int32))])) st1 ?_
  refine own_st (V := T1.setTop (mkF m 7 #[.val (.ref oa)] [])) (fun _ hk => XS.ifNo X1.here hx rfl (hb hby d19_4) rfl ((if0 _ _).trans (teq (show (0 : Int32) = (0 : Int32) from rfl)).2) hk) ?_
  refine own_st (V := T1.setTop (mkF m 8 #[.val (.ref oa)] [(.int (1 : Int32))])) (fun _ hk => XS.iconst X1.here hx rfl (hb hby d19_7) hk) ?_
  refine own_st (V := T1.setTop (mkF m 12 #[.val (.ref oa)] [(.int (1 : Int32))])) (fun _ hk => XS.goto X1.here hx rfl (pc0 := 8) (pc' := 12) rfl (hb hby d19_8) (by decide) (by decide) hk) ?_
  exact own_retN X1 hx Bd.notSynchronized Bd.returns rfl (by simp) (hb hby d19_12) (by decide) (by decide) (fun U hU hE => hF _ _ ⟨_, _, rfl, (by rw [hU, e1]; exact ⟨rfl, N0, rfl⟩), hE⟩)
theorem d19_11 : decode jdk_38_method_9_code 11 = .ok (.iconst 0, 1) := by decide +kernel
theorem own_ef_isEmp1 (m : MethodId) (x0 : Addr) : entryFrame m #[(.ref x0)] 1 = mkF m 0 #[.val (.ref x0)] [] := by first | (simp [entryFrame, mkF, argsToLocals, Value.category]; done) | rfl
def Q_isEmp1 (Z : State) (oa : Addr) (h0 : Heap) (n0 : Nat) (v : Option Value) (h : Heap) (L : List Loc) : Prop := v = some (.int 0) ∧ Fr n0 L ∧ h = h0
set_option maxRecDepth 65536 in
set_option maxHeartbeats 40000000 in
theorem rm_isEmp1 (l : Launch) (Z : State) (a0 : Array Value) (hw : ∀ d ∈ tables_1, d.before a0 Z = true) (ws : List Jvm.Cond) (oa : Addr) (h0 : Heap) (n0 : Nat) (Z0 : n0 ≤ h0.size) (F_z : Fld Z h0 oa "java/util/ArrayList" "size" "I" (.int 1)) :
    MetFree l (⟨"java/util/ArrayList", "isEmpty", "()Z"⟩ : MethodName) (head1 (Jvm.Cond.code (⟨"java/util/ArrayList", "isEmpty", "()Z"⟩ : MethodName) jdk_38_method_9_code 1 (some .boolean) :: ws) ({ frames := 0, cells := 0, slots := 0, locals := 0 } : Room)) (fun a U => a = #[(.ref oa)] ∧ Z.Warmed39 U.vm ∧ U.heap = h0) (fun _ _ _ _ _ => True) (fun _ U o U' => ∃ v L, o = .returned v ∧ Q_isEmp1 Z oa h0 n0 v U'.heap L ∧ FrameEnd U o U' L ({ frames := 0, cells := 0, slots := 0, locals := 0 } : Room).cells ({ frames := 0, cells := 0, slots := 0, locals := 0 } : Room).slots) := by
  refine MetFree.of_bodySF (plainFor_of_name own_pn_java_util_ArrayList) hisR ?_
  intro p e s m args below meth c s₁ Bd hml0 hP hK
  obtain ⟨rfl, hZ, hh⟩ := hP
  have hx := Bd.exec
  have hby := Bd.bytes
  have hml : c.maxLocals = 1 := hml0
  have hown : s.vm.findClass "java/util/ArrayList" = some m.cls := findClass_of_methodNamed Bd.named
  have hnm := (name_of_methodNamed Bd.named Bd.method).1
  have X0 : Stand p l e ({ frames := 0, cells := 0, slots := 0, locals := 0 } : Room) s m #[(.ref oa)] below meth c s₁ [] 0 0 := Stand.of_body Bd
  have e0 : s₁.heap = h0 := by rw [← hh, Bd.state]; rfl
  have N0 := Fr.nil n0
  refine own_start (F0 := fun o U' => ∃ v L, o = .returned v ∧ Q_isEmp1 Z oa h0 n0 v U'.heap L ∧ FrameEnd s o U' L ({ frames := 0, cells := 0, slots := 0, locals := 0 } : Room).cells ({ frames := 0, cells := 0, slots := 0, locals := 0 } : Room).slots) fun F hF => ?_
  rw [own_ef_isEmp1 m oa]
  refine own_st (V := s₁.setTop (mkF m 1 #[.val (.ref oa)] [(.ref oa)])) (fun _ hk => XS.aloadN X0.here hx rfl (hb hby d19_0) rfl rfl hk) ?_
  obtain ⟨T1, X1, e1, st1⟩ := getF X0 hx hZ hown (host := "") (Or.inl (hw _ (List.mem_of_getElem? (i := 151) rfl))) Via.refl e0 F_z (g := (mkF m 1 #[.val (.ref oa)] [(.ref oa)])) rfl rfl (hb hby d19_1)
  refine own_st (V := T1.setTop (mkF m 4 #[.val (.ref oa)] [(.int (1 : Int32))])) st1 ?_
  refine own_st (V := T1.setTop (mkF m 11 #[.val (.ref oa)] [])) (fun _ hk => XS.ifYes X1.here hx rfl (pc0 := 4) (pc' := 11) rfl (hb hby d19_4) rfl ((if0 _ _).trans (feq (show ¬ ((1 : Int32) = (0 : Int32)) from (by decide))).2) (by decide) (by decide) hk) ?_
  refine own_st (V := T1.setTop (mkF m 12 #[.val (.ref oa)] [(.int (0 : Int32))])) (fun _ hk => XS.iconst X1.here hx rfl (hb hby d19_11) hk) ?_
  exact own_retN X1 hx Bd.notSynchronized Bd.returns rfl (by simp) (hb hby d19_12) (by decide) (by decide) (fun U hU hE => hF _ _ ⟨_, _, rfl, (by rw [hU, e1]; exact ⟨rfl, N0, rfl⟩), hE⟩)
theorem own_ef_isEmp2 (m : MethodId) (x0 : Addr) : entryFrame m #[(.ref x0)] 1 = mkF m 0 #[.val (.ref x0)] [] := by first | (simp [entryFrame, mkF, argsToLocals, Value.category]; done) | rfl
def Q_isEmp2 (Z : State) (oa : Addr) (h0 : Heap) (n0 : Nat) (v : Option Value) (h : Heap) (L : List Loc) : Prop := v = some (.int 0) ∧ Fr n0 L ∧ h = h0
set_option maxRecDepth 65536 in
set_option maxHeartbeats 40000000 in
theorem rm_isEmp2 (l : Launch) (Z : State) (a0 : Array Value) (hw : ∀ d ∈ tables_1, d.before a0 Z = true) (ws : List Jvm.Cond) (oa : Addr) (h0 : Heap) (n0 : Nat) (Z0 : n0 ≤ h0.size) (F_z : Fld Z h0 oa "java/util/ArrayList" "size" "I" (.int 2)) :
    MetFree l (⟨"java/util/ArrayList", "isEmpty", "()Z"⟩ : MethodName) (head1 (Jvm.Cond.code (⟨"java/util/ArrayList", "isEmpty", "()Z"⟩ : MethodName) jdk_38_method_9_code 1 (some .boolean) :: ws) ({ frames := 0, cells := 0, slots := 0, locals := 0 } : Room)) (fun a U => a = #[(.ref oa)] ∧ Z.Warmed39 U.vm ∧ U.heap = h0) (fun _ _ _ _ _ => True) (fun _ U o U' => ∃ v L, o = .returned v ∧ Q_isEmp2 Z oa h0 n0 v U'.heap L ∧ FrameEnd U o U' L ({ frames := 0, cells := 0, slots := 0, locals := 0 } : Room).cells ({ frames := 0, cells := 0, slots := 0, locals := 0 } : Room).slots) := by
  refine MetFree.of_bodySF (plainFor_of_name own_pn_java_util_ArrayList) hisR ?_
  intro p e s m args below meth c s₁ Bd hml0 hP hK
  obtain ⟨rfl, hZ, hh⟩ := hP
  have hx := Bd.exec
  have hby := Bd.bytes
  have hml : c.maxLocals = 1 := hml0
  have hown : s.vm.findClass "java/util/ArrayList" = some m.cls := findClass_of_methodNamed Bd.named
  have hnm := (name_of_methodNamed Bd.named Bd.method).1
  have X0 : Stand p l e ({ frames := 0, cells := 0, slots := 0, locals := 0 } : Room) s m #[(.ref oa)] below meth c s₁ [] 0 0 := Stand.of_body Bd
  have e0 : s₁.heap = h0 := by rw [← hh, Bd.state]; rfl
  have N0 := Fr.nil n0
  refine own_start (F0 := fun o U' => ∃ v L, o = .returned v ∧ Q_isEmp2 Z oa h0 n0 v U'.heap L ∧ FrameEnd s o U' L ({ frames := 0, cells := 0, slots := 0, locals := 0 } : Room).cells ({ frames := 0, cells := 0, slots := 0, locals := 0 } : Room).slots) fun F hF => ?_
  rw [own_ef_isEmp2 m oa]
  refine own_st (V := s₁.setTop (mkF m 1 #[.val (.ref oa)] [(.ref oa)])) (fun _ hk => XS.aloadN X0.here hx rfl (hb hby d19_0) rfl rfl hk) ?_
  obtain ⟨T1, X1, e1, st1⟩ := getF X0 hx hZ hown (host := "") (Or.inl (hw _ (List.mem_of_getElem? (i := 151) rfl))) Via.refl e0 F_z (g := (mkF m 1 #[.val (.ref oa)] [(.ref oa)])) rfl rfl (hb hby d19_1)
  refine own_st (V := T1.setTop (mkF m 4 #[.val (.ref oa)] [(.int (2 : Int32))])) st1 ?_
  refine own_st (V := T1.setTop (mkF m 11 #[.val (.ref oa)] [])) (fun _ hk => XS.ifYes X1.here hx rfl (pc0 := 4) (pc' := 11) rfl (hb hby d19_4) rfl ((if0 _ _).trans (feq (show ¬ ((2 : Int32) = (0 : Int32)) from (by decide))).2) (by decide) (by decide) hk) ?_
  refine own_st (V := T1.setTop (mkF m 12 #[.val (.ref oa)] [(.int (0 : Int32))])) (fun _ hk => XS.iconst X1.here hx rfl (hb hby d19_11) hk) ?_
  exact own_retN X1 hx Bd.notSynchronized Bd.returns rfl (by simp) (hb hby d19_12) (by decide) (by decide) (fun U hU hE => hF _ _ ⟨_, _, rfl, (by rw [hU, e1]; exact ⟨rfl, N0, rfl⟩), hE⟩)
theorem d18_0 : decode jdk_56_method_3_code 0 = .ok (.aload_n 0, 1) := by decide +kernel
theorem d18_1 : decode jdk_56_method_3_code 1 = .ok (.instanceof 10, 3) := by decide +kernel
theorem d18_4 : decode jdk_56_method_3_code 4 = .ok (.ifCond .ne 22, 3) := by decide +kernel
theorem d18_7 : decode jdk_56_method_3_code 7 = .ok (.aload_n 0, 1) := by decide +kernel
theorem d18_8 : decode jdk_56_method_3_code 8 = .ok (.instanceof 12, 3) := by decide +kernel
theorem d18_11 : decode jdk_56_method_3_code 11 = .ok (.ifCond .eq 20, 3) := by decide +kernel
theorem d18_31 : decode jdk_56_method_3_code 31 = .ok (.aload_n 0, 1) := by decide +kernel
theorem d18_32 : decode jdk_56_method_3_code 32 = .ok (.invokeinterface 20 1, 5) := by decide +kernel
theorem own_pd17 : parseMethodDescriptor "()Z" = some ⟨[], some .boolean⟩ := by decide +kernel
theorem d18_37 : decode jdk_56_method_3_code 37 = .ok (.ifCond .eq 7, 3) := by decide +kernel
theorem d18_40 : decode jdk_56_method_3_code 40 = .ok (.invokestatic 26, 3) := by decide +kernel
theorem own_pd18 : parseMethodDescriptor "()Ljava/util/List;" = some ⟨[], some (.object "java/util/List")⟩ := by decide +kernel
theorem d18_43 : decode jdk_56_method_3_code 43 = .ok (.areturn, 1) := by decide +kernel
theorem own_pn_java_util_ImmutableCollections : plainName "java/util/ImmutableCollections" = true := by first | (simp [plainName, overriddenIn]; done) | decide +kernel
theorem own_ef_lc0 (m : MethodId) (x0 : Addr) : entryFrame m #[(.ref x0)] 2 = mkF m 0 #[.val (.ref x0), .unset] [] := by first | (simp [entryFrame, mkF, argsToLocals, Value.category]; done) | rfl
def Q_lc0 (Z : State) (oa : Addr) (dc el ea em mr : Addr) (kd ke : ClassId) (h0 : Heap) (n0 : Nat) (v : Option Value) (h : Heap) (L : List Loc) : Prop := v = some (.ref el) ∧ Fr n0 L ∧ h = h0
set_option maxRecDepth 65536 in
set_option maxHeartbeats 40000000 in
theorem rm_lc0 (l : Launch) (Z : State) (a0 : Array Value) (hw : ∀ d ∈ tables_1, d.before a0 Z = true) (ws : List Jvm.Cond) (oa : Addr) (dc el ea em mr : Addr) (kd ke : ClassId) (h0 : Heap) (n0 : Nat) (Z0 : n0 ≤ h0.size) (O : Old Z n0 h0) (hT : own_ST Z dc el ea em mr kd ke) (E_a : Exa Z h0 oa "java/util/ArrayList") (F_z : Fld Z h0 oa "java/util/ArrayList" "size" "I" (.int 0)) :
    MetFree l (⟨"java/util/ImmutableCollections", "listCopy", "(Ljava/util/Collection;)Ljava/util/List;"⟩ : MethodName) (head1 (Jvm.Cond.code (⟨"java/util/ImmutableCollections", "listCopy", "(Ljava/util/Collection;)Ljava/util/List;"⟩ : MethodName) jdk_56_method_3_code 2 (some (.object "java/util/List")) :: ws) ({ frames := 1, cells := 0, slots := 0, locals := 12 } : Room)) (fun a U => a = #[(.ref oa)] ∧ Z.Warmed39 U.vm ∧ U.heap = h0) (fun _ _ _ _ _ => True) (fun _ U o U' => ∃ v L, o = .returned v ∧ Q_lc0 Z oa dc el ea em mr kd ke h0 n0 v U'.heap L ∧ FrameEnd U o U' L ({ frames := 1, cells := 0, slots := 0, locals := 12 } : Room).cells ({ frames := 1, cells := 0, slots := 0, locals := 12 } : Room).slots) := by
  refine MetFree.of_bodySF (plainFor_of_name own_pn_java_util_ImmutableCollections) hisR ?_
  intro p e s m args below meth c s₁ Bd hml0 hP hK
  obtain ⟨rfl, hZ, hh⟩ := hP
  have hx := Bd.exec
  have hby := Bd.bytes
  have hml : c.maxLocals = 2 := hml0
  have hown : s.vm.findClass "java/util/ImmutableCollections" = some m.cls := findClass_of_methodNamed Bd.named
  have hnm := (name_of_methodNamed Bd.named Bd.method).1
  have X0 : Stand p l e ({ frames := 1, cells := 0, slots := 0, locals := 12 } : Room) s m #[(.ref oa)] below meth c s₁ [] 0 0 := Stand.of_body Bd
  have e0 : s₁.heap = h0 := by rw [← hh, Bd.state]; rfl
  have N0 := Fr.nil n0
  refine own_start (F0 := fun o U' => ∃ v L, o = .returned v ∧ Q_lc0 Z oa dc el ea em mr kd ke h0 n0 v U'.heap L ∧ FrameEnd s o U' L ({ frames := 1, cells := 0, slots := 0, locals := 12 } : Room).cells ({ frames := 1, cells := 0, slots := 0, locals := 12 } : Room).slots) fun F hF => ?_
  rw [own_ef_lc0 m oa]
  have hT' := hT
  obtain ⟨Sdc, Vdc, Sel, Eel, Fel, Vea, Sem, Eem, hM⟩ := hT
  refine own_st (V := s₁.setTop (mkF m 1 #[.val (.ref oa), .unset] [(.ref oa)])) (fun _ hk => XS.aloadN X0.here hx rfl (hb hby d18_0) rfl rfl hk) ?_
  obtain ⟨T1, X1, e1, st1⟩ := instNo X0 hx hZ hown (hw _ (List.mem_of_getElem? (i := 136) rfl)) e0 E_a (own_nsNoF (hw _ (List.mem_of_getElem? (i := 137) rfl)) (hw _ (List.mem_of_getElem? (i := 270) rfl)) rfl (NS.step (hw _ (List.mem_of_getElem? (i := 137) rfl)) (NS.step (hw _ (List.mem_of_getElem? (i := 138) rfl)) (NS.step (hw _ (List.mem_of_getElem? (i := 139) rfl)) (own_nsRootF (hw _ (List.mem_of_getElem? (i := 140) rfl)) (own_foundS (hw _ (List.mem_of_getElem? (i := 270) rfl))) (by decide)) (by decide)) (by decide)) (by decide)) (by decide)) (g := (mkF m 1 #[.val (.ref oa), .unset] [(.ref oa)])) rfl rfl (hb hby d18_1)
  refine own_st (V := T1.setTop (mkF m 4 #[.val (.ref oa), .unset] [(.int (0 : Int32))])) st1 ?_
  refine own_st (V := T1.setTop (mkF m 7 #[.val (.ref oa), .unset] [])) (fun _ hk => XS.ifNo X1.here hx rfl (hb hby d18_4) rfl ((if0 _ _).trans (teq (show (0 : Int32) = (0 : Int32) from rfl)).2) hk) ?_
  refine own_st (V := T1.setTop (mkF m 8 #[.val (.ref oa), .unset] [(.ref oa)])) (fun _ hk => XS.aloadN X1.here hx rfl (hb hby d18_7) rfl rfl hk) ?_
  obtain ⟨T2, X2, e2, st2⟩ := instNo X1 hx hZ hown (hw _ (List.mem_of_getElem? (i := 141) rfl)) e1 E_a (own_nsNoF (hw _ (List.mem_of_getElem? (i := 137) rfl)) (hw _ (List.mem_of_getElem? (i := 171) rfl)) rfl (NS.step (hw _ (List.mem_of_getElem? (i := 137) rfl)) (NS.step (hw _ (List.mem_of_getElem? (i := 138) rfl)) (NS.step (hw _ (List.mem_of_getElem? (i := 139) rfl)) (own_nsRootF (hw _ (List.mem_of_getElem? (i := 140) rfl)) (own_foundS (hw _ (List.mem_of_getElem? (i := 171) rfl))) (by decide)) (by decide)) (by decide)) (by decide)) (by decide)) (g := (mkF m 8 #[.val (.ref oa), .unset] [(.ref oa)])) rfl rfl (hb hby d18_8)
  refine own_st (V := T2.setTop (mkF m 11 #[.val (.ref oa), .unset] [(.int (0 : Int32))])) st2 ?_
  refine own_st (V := T2.setTop (mkF m 31 #[.val (.ref oa), .unset] [])) (fun _ hk => XS.ifYes X2.here hx rfl (pc0 := 11) (pc' := 31) rfl (hb hby d18_11) rfl ((if0 _ _).trans (teq (show (0 : Int32) = (0 : Int32) from rfl)).1) (by decide) (by decide) hk) ?_
  refine own_st (V := T2.setTop (mkF m 32 #[.val (.ref oa), .unset] [(.ref oa)])) (fun _ hk => XS.aloadN X2.here hx rfl (hb hby d18_31) rfl rfl hk) ?_
  obtain ⟨cq3, kq3, q3a, q3b, q3c⟩ := isOf hZ e2 E_a
  obtain ⟨_, _, ⟨T3, L3, k3, n3⟩, -, X3, ⟨Lc3, hQ3, l3, y3, z3⟩, st3⟩ := X2.interfaceBack hx (xi := (⟨"java/util/Collection", "isEmpty", "()Z"⟩ : MethodName)) (y := (⟨"java/util/ArrayList", "isEmpty", "()Z"⟩ : MethodName)) hown (mvT hZ (hw _ (List.mem_of_getElem? (i := 142) rfl))) (mvT hZ (hw _ (List.mem_of_getElem? (i := 143) rfl))) (mvT hZ (hw _ (List.mem_of_getElem? (i := 144) rfl))) (mvT hZ (hw _ (List.mem_of_getElem? (i := 145) rfl))) (mvT hZ (hw _ (List.mem_of_getElem? (i := 146) rfl))) (mvT hZ (hw _ (List.mem_of_getElem? (i := 147) rfl))) (mvT hZ (hw _ (List.mem_of_getElem? (i := 148) rfl))) (mvT hZ (hw _ (List.mem_of_getElem? (i := 149) rfl))) (by decide) (backOf (W := 0) (rm_isEmp0 l Z a0 hw [] oa h0 n0 Z0 F_z) hZ (hw _ (List.mem_of_getElem? (i := 150) rfl)) (hw _ (List.mem_of_getElem? (i := 99) rfl)) (by decide) (by decide)) q3a q3b q3c (g := (mkF m 32 #[.val (.ref oa), .unset] [(.ref oa)])) rfl (by rw [hml]; rfl) (Steps.refl _) (argsL := []) (rest := []) (lenOf own_pd17 rfl) rfl (by show 2 * 0 + _ ≤ _; exact Nat.le_of_eq rfl) (hb hby d18_32) (fun _ _ => ⟨rfl, e2, (by decide : 0 + 0 ≤ _), (by decide : 0 + 0 ≤ _)⟩)
  dsimp only [Pt.U, Pt.locs, Pt.cells, Pt.slots] at X3 l3 y3 z3 st3 hQ3
  subst l3 y3 z3
  obtain ⟨rfl, N3q, es3⟩ := hQ3
  have N3 := Fr.app N0 N3q
  refine own_tr (V := T3.setTop (mkF m 37 #[.val (.ref oa), .unset] [(.int (1 : Int32))])) st3 ?_
  refine own_st (V := T3.setTop (mkF m 40 #[.val (.ref oa), .unset] [])) (fun _ hk => XS.ifNo X3.here hx rfl (hb hby d18_37) rfl ((if0 _ _).trans (feq (show ¬ ((1 : Int32) = (0 : Int32)) from (by decide))).1) hk) ?_
  obtain ⟨_, _, ⟨T4, L4, k4, n4⟩, -, X4, ⟨Lc4, hQ4, l4, y4, z4⟩, st4⟩ := Jvm.LawKit.callS X3 hx (y := (⟨"java/util/List", "of", "()Ljava/util/List;"⟩ : MethodName)) hown (mvT hZ (hw _ (List.mem_of_getElem? (i := 153) rfl))) (mvT hZ (hw _ (List.mem_of_getElem? (i := 154) rfl))) (mvT hZ (hw _ (List.mem_of_getElem? (i := 130) rfl))) (mvT hZ (hw _ (List.mem_of_getElem? (i := 155) rfl))) (by decide) (backOf (W := 0) (rm_of_0 l Z a0 hw [] dc el ea em mr kd ke h0 n0 Z0 O hT') hZ (hw _ (List.mem_of_getElem? (i := 155) rfl)) (hw _ (List.mem_of_getElem? (i := 130) rfl)) (by decide) (by decide)) (g := (mkF m 40 #[.val (.ref oa), .unset] [])) rfl (by rw [hml]; rfl) (argsL := []) (rest := []) (lenOf own_pd18 rfl) rfl (by show 2 * 0 + _ ≤ _; exact Nat.le_of_eq rfl) (hb hby d18_40) (fun _ _ => ⟨rfl, es3, (by decide : 0 + 0 ≤ _), (by decide : 0 + 0 ≤ _)⟩)
  dsimp only [Pt.U, Pt.locs, Pt.cells, Pt.slots] at X4 l4 y4 z4 st4 hQ4
  subst l4 y4 z4
  obtain ⟨rfl, N4q, es4⟩ := hQ4
  have N4 := Fr.app N3 N4q
  refine own_st (V := T4.setTop (mkF m 43 #[.val (.ref oa), .unset] [(.ref el)])) st4 ?_
  exact own_retA X4 hx Bd.notSynchronized Bd.returns rfl rfl (hb hby d18_43) (by decide) (by decide) (fun U hU hE => hF _ _ ⟨_, _, rfl, (by rw [hU, es4]; exact ⟨rfl, N4, rfl⟩), hE⟩)
theorem d17_0 : decode jdk_40_method_48_code 0 = .ok (.aload_n 0, 1) := by decide +kernel
theorem d17_1 : decode jdk_40_method_48_code 1 = .ok (.invokestatic 112, 3) := by decide +kernel
theorem own_pd19 : parseMethodDescriptor "(Ljava/util/Collection;)Ljava/util/List;" = some ⟨[(.object "java/util/Collection")], some (.object "java/util/List")⟩ := by decide +kernel
theorem d17_4 : decode jdk_40_method_48_code 4 = .ok (.areturn, 1) := by decide +kernel
theorem own_ef_cp0 (m : MethodId) (x0 : Addr) : entryFrame m #[(.ref x0)] 1 = mkF m 0 #[.val (.ref x0)] [] := by first | (simp [entryFrame, mkF, argsToLocals, Value.category]; done) | rfl
def Q_cp0 (Z : State) (oa : Addr) (dc el ea em mr : Addr) (kd ke : ClassId) (h0 : Heap) (n0 : Nat) (v : Option Value) (h : Heap) (L : List Loc) : Prop := v = some (.ref el) ∧ Fr n0 L ∧ h = h0
set_option maxRecDepth 65536 in
set_option maxHeartbeats 40000000 in
theorem rm_cp0 (l : Launch) (Z : State) (a0 : Array Value) (hw : ∀ d ∈ tables_1, d.before a0 Z = true) (ws : List Jvm.Cond) (oa : Addr) (dc el ea em mr : Addr) (kd ke : ClassId) (h0 : Heap) (n0 : Nat) (Z0 : n0 ≤ h0.size) (O : Old Z n0 h0) (hT : own_ST Z dc el ea em mr kd ke) (E_a : Exa Z h0 oa "java/util/ArrayList") (F_z : Fld Z h0 oa "java/util/ArrayList" "size" "I" (.int 0)) :
    MetFree l (⟨"java/util/List", "copyOf", "(Ljava/util/Collection;)Ljava/util/List;"⟩ : MethodName) (head1 (Jvm.Cond.code (⟨"java/util/List", "copyOf", "(Ljava/util/Collection;)Ljava/util/List;"⟩ : MethodName) jdk_40_method_48_code 1 (some (.object "java/util/List")) :: ws) ({ frames := 2, cells := 0, slots := 0, locals := 25 } : Room)) (fun a U => a = #[(.ref oa)] ∧ Z.Warmed39 U.vm ∧ U.heap = h0) (fun _ _ _ _ _ => True) (fun _ U o U' => ∃ v L, o = .returned v ∧ Q_cp0 Z oa dc el ea em mr kd ke h0 n0 v U'.heap L ∧ FrameEnd U o U' L ({ frames := 2, cells := 0, slots := 0, locals := 25 } : Room).cells ({ frames := 2, cells := 0, slots := 0, locals := 25 } : Room).slots) := by
  refine MetFree.of_bodySF (plainFor_of_name own_pn_java_util_List) hisR ?_
  intro p e s m args below meth c s₁ Bd hml0 hP hK
  obtain ⟨rfl, hZ, hh⟩ := hP
  have hx := Bd.exec
  have hby := Bd.bytes
  have hml : c.maxLocals = 1 := hml0
  have hown : s.vm.findClass "java/util/List" = some m.cls := findClass_of_methodNamed Bd.named
  have hnm := (name_of_methodNamed Bd.named Bd.method).1
  have X0 : Stand p l e ({ frames := 2, cells := 0, slots := 0, locals := 25 } : Room) s m #[(.ref oa)] below meth c s₁ [] 0 0 := Stand.of_body Bd
  have e0 : s₁.heap = h0 := by rw [← hh, Bd.state]; rfl
  have N0 := Fr.nil n0
  refine own_start (F0 := fun o U' => ∃ v L, o = .returned v ∧ Q_cp0 Z oa dc el ea em mr kd ke h0 n0 v U'.heap L ∧ FrameEnd s o U' L ({ frames := 2, cells := 0, slots := 0, locals := 25 } : Room).cells ({ frames := 2, cells := 0, slots := 0, locals := 25 } : Room).slots) fun F hF => ?_
  rw [own_ef_cp0 m oa]
  refine own_st (V := s₁.setTop (mkF m 1 #[.val (.ref oa)] [(.ref oa)])) (fun _ hk => XS.aloadN X0.here hx rfl (hb hby d17_0) rfl rfl hk) ?_
  obtain ⟨_, _, ⟨T1, L1, k1, n1⟩, -, X1, ⟨Lc1, hQ1, l1, y1, z1⟩, st1⟩ := Jvm.LawKit.callS X0 hx (y := (⟨"java/util/ImmutableCollections", "listCopy", "(Ljava/util/Collection;)Ljava/util/List;"⟩ : MethodName)) hown (mvT hZ (hw _ (List.mem_of_getElem? (i := 132) rfl))) (mvT hZ (hw _ (List.mem_of_getElem? (i := 133) rfl))) (mvT hZ (hw _ (List.mem_of_getElem? (i := 134) rfl))) (mvT hZ (hw _ (List.mem_of_getElem? (i := 135) rfl))) (by decide) (backOf (W := 0) (rm_lc0 l Z a0 hw [] oa dc el ea em mr kd ke h0 n0 Z0 O hT E_a F_z) hZ (hw _ (List.mem_of_getElem? (i := 135) rfl)) (hw _ (List.mem_of_getElem? (i := 134) rfl)) (by decide) (by decide)) (g := (mkF m 1 #[.val (.ref oa)] [(.ref oa)])) rfl (by rw [hml]; rfl) (argsL := [(.ref oa)]) (rest := []) (lenOf own_pd19 rfl) rfl (by show 2 * 0 + _ ≤ _; exact Nat.le_of_eq rfl) (hb hby d17_1) (fun _ _ => ⟨rfl, e0, (by decide : 0 + 0 ≤ _), (by decide : 0 + 0 ≤ _)⟩)
  dsimp only [Pt.U, Pt.locs, Pt.cells, Pt.slots] at X1 l1 y1 z1 st1 hQ1
  subst l1 y1 z1
  obtain ⟨rfl, N1q, es1⟩ := hQ1
  have N1 := Fr.app N0 N1q
  refine own_st (V := T1.setTop (mkF m 4 #[.val (.ref oa)] [(.ref el)])) st1 ?_
  exact own_retA X1 hx Bd.notSynchronized Bd.returns rfl rfl (hb hby d17_4) (by decide) (by decide) (fun U hU hE => hF _ _ ⟨_, _, rfl, (by rw [hU, es1]; exact ⟨rfl, N1, rfl⟩), hE⟩)
theorem d18_44 : decode jdk_56_method_3_code 44 = .ok (.aload_n 0, 1) := by decide +kernel
theorem d18_45 : decode jdk_56_method_3_code 45 = .ok (.invokeinterface 30 1, 5) := by decide +kernel
theorem d18_50 : decode jdk_56_method_3_code 50 = .ok (.invokestatic 34, 3) := by decide +kernel
theorem own_pd20 : parseMethodDescriptor "([Ljava/lang/Object;)Ljava/util/List;" = some ⟨[(.array (.object "java/lang/Object"))], some (.object "java/util/List")⟩ := by decide +kernel
theorem d18_53 : decode jdk_56_method_3_code 53 = .ok (.areturn, 1) := by decide +kernel
theorem own_ef_lc1 (m : MethodId) (x0 : Addr) : entryFrame m #[(.ref x0)] 2 = mkF m 0 #[.val (.ref x0), .unset] [] := by first | (simp [entryFrame, mkF, argsToLocals, Value.category]; done) | rfl
def Q_lc1 (Z : State) (oa t y1 : Addr) (kt : ClassId) (dc el ea em mr : Addr) (kd ke : ClassId) (h0 : Heap) (n0 : Nat) (v : Option Value) (h : Heap) (L : List Loc) : Prop := ∃ r : Addr, v = some (.ref r) ∧ Fr n0 L ∧ Keep h0 h [] ∧ h0.size ≤ r ∧ Exa Z h r "java/util/ImmutableCollections$List12" ∧ Fld Z h r "java/util/ImmutableCollections$List12" "e0" "Ljava/lang/Object;" (.ref y1) ∧ Fld Z h r "java/util/ImmutableCollections$List12" "e1" "Ljava/lang/Object;" (.ref em)
set_option maxRecDepth 65536 in
set_option maxHeartbeats 40000000 in
theorem rm_lc1 (l : Launch) (Z : State) (a0 : Array Value) (hw : ∀ d ∈ tables_1, d.before a0 Z = true) (ws : List Jvm.Cond) (oa t y1 : Addr) (kt : ClassId) (dc el ea em mr : Addr) (kd ke : ClassId) (h0 : Heap) (n0 : Nat) (Z0 : n0 ≤ h0.size) (O : Old Z n0 h0) (hT : own_ST Z dc el ea em mr kd ke) (E_a : Exa Z h0 oa "java/util/ArrayList") (F_z : Fld Z h0 oa "java/util/ArrayList" "size" "I" (.int 1)) (F_e : Fld Z h0 oa "java/util/ArrayList" "elementData" "[Ljava/lang/Object;" (.ref t)) (V_t : Arv Z h0 t kt (.object "java/lang/Object") (10 : Int32) [(.ref y1), .null, .null, .null, .null, .null, .null, .null, .null, .null] .null) (E_t : Exa Z h0 t "[Ljava/lang/Object;") (E_y1 : Exa Z h0 y1 "com/example/vestline/vestline/service/SetAside") :
    MetFree l (⟨"java/util/ImmutableCollections", "listCopy", "(Ljava/util/Collection;)Ljava/util/List;"⟩ : MethodName) (head1 (Jvm.Cond.code (⟨"java/util/ImmutableCollections", "listCopy", "(Ljava/util/Collection;)Ljava/util/List;"⟩ : MethodName) jdk_56_method_3_code 2 (some (.object "java/util/List")) :: ws) ({ frames := 6, cells := 2, slots := 3, locals := 75 } : Room)) (fun a U => a = #[(.ref oa)] ∧ Z.Warmed39 U.vm ∧ U.heap = h0) (fun _ _ _ _ _ => True) (fun _ U o U' => ∃ v L, o = .returned v ∧ Q_lc1 Z oa t y1 kt dc el ea em mr kd ke h0 n0 v U'.heap L ∧ FrameEnd U o U' L ({ frames := 6, cells := 2, slots := 3, locals := 75 } : Room).cells ({ frames := 6, cells := 2, slots := 3, locals := 75 } : Room).slots) := by
  refine MetFree.of_bodySF (plainFor_of_name own_pn_java_util_ImmutableCollections) hisR ?_
  intro p e s m args below meth c s₁ Bd hml0 hP hK
  obtain ⟨rfl, hZ, hh⟩ := hP
  have hx := Bd.exec
  have hby := Bd.bytes
  have hml : c.maxLocals = 2 := hml0
  have hown : s.vm.findClass "java/util/ImmutableCollections" = some m.cls := findClass_of_methodNamed Bd.named
  have hnm := (name_of_methodNamed Bd.named Bd.method).1
  have X0 : Stand p l e ({ frames := 6, cells := 2, slots := 3, locals := 75 } : Room) s m #[(.ref oa)] below meth c s₁ [] 0 0 := Stand.of_body Bd
  have e0 : s₁.heap = h0 := by rw [← hh, Bd.state]; rfl
  have N0 := Fr.nil n0
  refine own_start (F0 := fun o U' => ∃ v L, o = .returned v ∧ Q_lc1 Z oa t y1 kt dc el ea em mr kd ke h0 n0 v U'.heap L ∧ FrameEnd s o U' L ({ frames := 6, cells := 2, slots := 3, locals := 75 } : Room).cells ({ frames := 6, cells := 2, slots := 3, locals := 75 } : Room).slots) fun F hF => ?_
  rw [own_ef_lc1 m oa]
  have K := Keep.refl h0 []
  have hT' := hT
  obtain ⟨Sdc, Vdc, Sel, Eel, Fel, Vea, Sem, Eem, hM⟩ := hT
  refine own_st (V := s₁.setTop (mkF m 1 #[.val (.ref oa), .unset] [(.ref oa)])) (fun _ hk => XS.aloadN X0.here hx rfl (hb hby d18_0) rfl rfl hk) ?_
  obtain ⟨T1, X1, e1, st1⟩ := instNo X0 hx hZ hown (hw _ (List.mem_of_getElem? (i := 136) rfl)) e0 E_a (own_nsNoF (hw _ (List.mem_of_getElem? (i := 137) rfl)) (hw _ (List.mem_of_getElem? (i := 270) rfl)) rfl (NS.step (hw _ (List.mem_of_getElem? (i := 137) rfl)) (NS.step (hw _ (List.mem_of_getElem? (i := 138) rfl)) (NS.step (hw _ (List.mem_of_getElem? (i := 139) rfl)) (own_nsRootF (hw _ (List.mem_of_getElem? (i := 140) rfl)) (own_foundS (hw _ (List.mem_of_getElem? (i := 270) rfl))) (by decide)) (by decide)) (by decide)) (by decide)) (by decide)) (g := (mkF m 1 #[.val (.ref oa), .unset] [(.ref oa)])) rfl rfl (hb hby d18_1)
  refine own_st (V := T1.setTop (mkF m 4 #[.val (.ref oa), .unset] [(.int (0 : Int32))])) st1 ?_
  refine own_st (V := T1.setTop (mkF m 7 #[.val (.ref oa), .unset] [])) (fun _ hk => XS.ifNo X1.here hx rfl (hb hby d18_4) rfl ((if0 _ _).trans (teq (show (0 : Int32) = (0 : Int32) from rfl)).2) hk) ?_
  refine own_st (V := T1.setTop (mkF m 8 #[.val (.ref oa), .unset] [(.ref oa)])) (fun _ hk => XS.aloadN X1.here hx rfl (hb hby d18_7) rfl rfl hk) ?_
  obtain ⟨T2, X2, e2, st2⟩ := instNo X1 hx hZ hown (hw _ (List.mem_of_getElem? (i := 141) rfl)) e1 E_a (own_nsNoF (hw _ (List.mem_of_getElem? (i := 137) rfl)) (hw _ (List.mem_of_getElem? (i := 171) rfl)) rfl (NS.step (hw _ (List.mem_of_getElem? (i := 137) rfl)) (NS.step (hw _ (List.mem_of_getElem? (i := 138) rfl)) (NS.step (hw _ (List.mem_of_getElem? (i := 139) rfl)) (own_nsRootF (hw _ (List.mem_of_getElem? (i := 140) rfl)) (own_foundS (hw _ (List.mem_of_getElem? (i := 171) rfl))) (by decide)) (by decide)) (by decide)) (by decide)) (by decide)) (g := (mkF m 8 #[.val (.ref oa), .unset] [(.ref oa)])) rfl rfl (hb hby d18_8)
  refine own_st (V := T2.setTop (mkF m 11 #[.val (.ref oa), .unset] [(.int (0 : Int32))])) st2 ?_
  refine own_st (V := T2.setTop (mkF m 31 #[.val (.ref oa), .unset] [])) (fun _ hk => XS.ifYes X2.here hx rfl (pc0 := 11) (pc' := 31) rfl (hb hby d18_11) rfl ((if0 _ _).trans (teq (show (0 : Int32) = (0 : Int32) from rfl)).1) (by decide) (by decide) hk) ?_
  refine own_st (V := T2.setTop (mkF m 32 #[.val (.ref oa), .unset] [(.ref oa)])) (fun _ hk => XS.aloadN X2.here hx rfl (hb hby d18_31) rfl rfl hk) ?_
  obtain ⟨cq3, kq3, q3a, q3b, q3c⟩ := isOf hZ e2 E_a
  obtain ⟨_, _, ⟨T3, L3, k3, n3⟩, -, X3, ⟨Lc3, hQ3, l3, y3, z3⟩, st3⟩ := X2.interfaceBack hx (xi := (⟨"java/util/Collection", "isEmpty", "()Z"⟩ : MethodName)) (y := (⟨"java/util/ArrayList", "isEmpty", "()Z"⟩ : MethodName)) hown (mvT hZ (hw _ (List.mem_of_getElem? (i := 142) rfl))) (mvT hZ (hw _ (List.mem_of_getElem? (i := 143) rfl))) (mvT hZ (hw _ (List.mem_of_getElem? (i := 144) rfl))) (mvT hZ (hw _ (List.mem_of_getElem? (i := 145) rfl))) (mvT hZ (hw _ (List.mem_of_getElem? (i := 146) rfl))) (mvT hZ (hw _ (List.mem_of_getElem? (i := 147) rfl))) (mvT hZ (hw _ (List.mem_of_getElem? (i := 148) rfl))) (mvT hZ (hw _ (List.mem_of_getElem? (i := 149) rfl))) (by decide) (backOf (W := 0) (rm_isEmp1 l Z a0 hw [] oa h0 n0 Z0 F_z) hZ (hw _ (List.mem_of_getElem? (i := 150) rfl)) (hw _ (List.mem_of_getElem? (i := 99) rfl)) (by decide) (by decide)) q3a q3b q3c (g := (mkF m 32 #[.val (.ref oa), .unset] [(.ref oa)])) rfl (by rw [hml]; rfl) (Steps.refl _) (argsL := []) (rest := []) (lenOf own_pd17 rfl) rfl (by show 2 * 0 + _ ≤ _; exact Nat.le_of_eq rfl) (hb hby d18_32) (fun _ _ => ⟨rfl, e2, (by decide : 0 + 0 ≤ _), (by decide : 0 + 0 ≤ _)⟩)
  dsimp only [Pt.U, Pt.locs, Pt.cells, Pt.slots] at X3 l3 y3 z3 st3 hQ3
  subst l3 y3 z3
  obtain ⟨rfl, N3q, es3⟩ := hQ3
  have N3 := Fr.app N0 N3q
  refine own_tr (V := T3.setTop (mkF m 37 #[.val (.ref oa), .unset] [(.int (0 : Int32))])) st3 ?_
  refine own_st (V := T3.setTop (mkF m 44 #[.val (.ref oa), .unset] [])) (fun _ hk => XS.ifYes X3.here hx rfl (pc0 := 37) (pc' := 44) rfl (hb hby d18_37) rfl ((if0 _ _).trans (teq (show (0 : Int32) = (0 : Int32) from rfl)).1) (by decide) (by decide) hk) ?_
  refine own_st (V := T3.setTop (mkF m 45 #[.val (.ref oa), .unset] [(.ref oa)])) (fun _ hk => XS.aloadN X3.here hx rfl (hb hby d18_44) rfl rfl hk) ?_
  obtain ⟨cq4, kq4, q4a, q4b, q4c⟩ := isOf hZ es3 E_a
  obtain ⟨_, _, ⟨T4, L4, k4, n4⟩, -, X4, ⟨Lc4, hQ4, l4, y4, z4⟩, st4⟩ := X3.interfaceBack hx (xi := (⟨"java/util/Collection", "toArray", "()[Ljava/lang/Object;"⟩ : MethodName)) (y := (⟨"java/util/ArrayList", "toArray", "()[Ljava/lang/Object;"⟩ : MethodName)) hown (mvT hZ (hw _ (List.mem_of_getElem? (i := 209) rfl))) (mvT hZ (hw _ (List.mem_of_getElem? (i := 210) rfl))) (mvT hZ (hw _ (List.mem_of_getElem? (i := 211) rfl))) (mvT hZ (hw _ (List.mem_of_getElem? (i := 212) rfl))) (mvT hZ (hw _ (List.mem_of_getElem? (i := 213) rfl))) (mvT hZ (hw _ (List.mem_of_getElem? (i := 214) rfl))) (mvT hZ (hw _ (List.mem_of_getElem? (i := 215) rfl))) (mvT hZ (hw _ (List.mem_of_getElem? (i := 149) rfl))) (by decide) (backOf (W := 0) (rm_toArr1 l Z a0 hw [] oa t mr y1 kt h0 n0 Z0 O F_e F_z V_t hM E_y1 E_t) hZ (hw _ (List.mem_of_getElem? (i := 216) rfl)) (hw _ (List.mem_of_getElem? (i := 99) rfl)) (by decide) (by decide)) q4a q4b q4c (g := (mkF m 45 #[.val (.ref oa), .unset] [(.ref oa)])) rfl (by rw [hml]; rfl) (Steps.refl _) (argsL := []) (rest := []) (lenOf own_pd10 rfl) rfl (by show 2 * 0 + _ ≤ _; exact Nat.le_of_eq rfl) (hb hby d18_45) (fun _ _ => ⟨rfl, es3, (by decide : 0 + 1 ≤ _), (by decide : 0 + 1 ≤ _)⟩)
  dsimp only [Pt.U, Pt.locs, Pt.cells, Pt.slots] at X4 l4 y4 z4 st4 hQ4
  subst l4 y4 z4
  obtain ⟨r1, kr, rfl, N4q, Kc, V_r⟩ := hQ4
  have N4 := Fr.app N3 N4q
  refine own_tr (V := T4.setTop (mkF m 50 #[.val (.ref oa), .unset] [(.ref r1)])) st4 ?_
  have E_a := E_a.keep Kc
  have F_z := F_z.keep Kc nin0
  have F_e := F_e.keep Kc nin0
  have V_t := V_t.keep Kc nin0
  have E_t := E_t.keep Kc
  have E_y1 := E_y1.keep Kc
  have Z0 : n0 ≤ T4.heap.size := Nat.le_trans Z0 Kc.1
  have O := O.keep Kc all0
  have K := K.trans Kc all0
  have hs0 := K.1
  obtain ⟨_, _, ⟨T5, L5, k5, n5⟩, -, X5, ⟨Lc5, hQ5, l5, y5, z5⟩, st5⟩ := Jvm.LawKit.callS X4 hx (y := (⟨"java/util/List", "of", "([Ljava/lang/Object;)Ljava/util/List;"⟩ : MethodName)) hown (mvT hZ (hw _ (List.mem_of_getElem? (i := 239) rfl))) (mvT hZ (hw _ (List.mem_of_getElem? (i := 240) rfl))) (mvT hZ (hw _ (List.mem_of_getElem? (i := 130) rfl))) (mvT hZ (hw _ (List.mem_of_getElem? (i := 241) rfl))) (by decide) (backOf (W := 0) (rm_of_1 l Z a0 hw [] r1 y1 kr dc el ea em mr kd ke T4.heap n0 Z0 O hT' V_r) hZ (hw _ (List.mem_of_getElem? (i := 241) rfl)) (hw _ (List.mem_of_getElem? (i := 130) rfl)) (by decide) (by decide)) (g := (mkF m 50 #[.val (.ref oa), .unset] [(.ref r1)])) rfl (by rw [hml]; rfl) (argsL := [(.ref r1)]) (rest := []) (lenOf own_pd20 rfl) rfl (by show 2 * 0 + _ ≤ _; exact Nat.le_of_eq rfl) (hb hby d18_50) (fun _ _ => ⟨rfl, rfl, (by decide : 1 + 1 ≤ _), (by decide : 1 + 2 ≤ _)⟩)
  dsimp only [Pt.U, Pt.locs, Pt.cells, Pt.slots] at X5 l5 y5 z5 st5 hQ5
  subst l5 y5 z5
  obtain ⟨r, rfl, N5q, Kd, szr, E_r, G_0, G_1⟩ := hQ5
  have N5 := Fr.app N4 N5q
  refine own_st (V := T5.setTop (mkF m 53 #[.val (.ref oa), .unset] [(.ref r)])) st5 ?_
  have E_a := E_a.keep Kd
  have F_z := F_z.keep Kd nin0
  have F_e := F_e.keep Kd nin0
  have V_t := V_t.keep Kd nin0
  have E_t := E_t.keep Kd
  have E_y1 := E_y1.keep Kd
  have Z0 : n0 ≤ T5.heap.size := Nat.le_trans Z0 Kd.1
  have O := O.keep Kd all0
  have K := K.trans Kd all0
  exact own_retA X5 hx Bd.notSynchronized Bd.returns rfl rfl (hb hby d18_53) (by decide) (by decide) (fun U hU hE => hF _ _ ⟨_, _, rfl, (by rw [hU]; exact ⟨_, rfl, N5, K, Nat.le_trans hs0 szr, E_r, G_0, G_1⟩), hE⟩)
theorem own_ef_cp1 (m : MethodId) (x0 : Addr) : entryFrame m #[(.ref x0)] 1 = mkF m 0 #[.val (.ref x0)] [] := by first | (simp [entryFrame, mkF, argsToLocals, Value.category]; done) | rfl
def Q_cp1 (Z : State) (oa t y1 : Addr) (kt : ClassId) (dc el ea em mr : Addr) (kd ke : ClassId) (h0 : Heap) (n0 : Nat) (v : Option Value) (h : Heap) (L : List Loc) : Prop := ∃ r : Addr, v = some (.ref r) ∧ Fr n0 L ∧ Keep h0 h [] ∧ h0.size ≤ r ∧ Exa Z h r "java/util/ImmutableCollections$List12" ∧ Fld Z h r "java/util/ImmutableCollections$List12" "e0" "Ljava/lang/Object;" (.ref y1) ∧ Fld Z h r "java/util/ImmutableCollections$List12" "e1" "Ljava/lang/Object;" (.ref em)
set_option maxRecDepth 65536 in
set_option maxHeartbeats 40000000 in
theorem rm_cp1 (l : Launch) (Z : State) (a0 : Array Value) (hw : ∀ d ∈ tables_1, d.before a0 Z = true) (ws : List Jvm.Cond) (oa t y1 : Addr) (kt : ClassId) (dc el ea em mr : Addr) (kd ke : ClassId) (h0 : Heap) (n0 : Nat) (Z0 : n0 ≤ h0.size) (O : Old Z n0 h0) (hT : own_ST Z dc el ea em mr kd ke) (E_a : Exa Z h0 oa "java/util/ArrayList") (F_z : Fld Z h0 oa "java/util/ArrayList" "size" "I" (.int 1)) (F_e : Fld Z h0 oa "java/util/ArrayList" "elementData" "[Ljava/lang/Object;" (.ref t)) (V_t : Arv Z h0 t kt (.object "java/lang/Object") (10 : Int32) [(.ref y1), .null, .null, .null, .null, .null, .null, .null, .null, .null] .null) (E_t : Exa Z h0 t "[Ljava/lang/Object;") (E_y1 : Exa Z h0 y1 "com/example/vestline/vestline/service/SetAside") :
    MetFree l (⟨"java/util/List", "copyOf", "(Ljava/util/Collection;)Ljava/util/List;"⟩ : MethodName) (head1 (Jvm.Cond.code (⟨"java/util/List", "copyOf", "(Ljava/util/Collection;)Ljava/util/List;"⟩ : MethodName) jdk_40_method_48_code 1 (some (.object "java/util/List")) :: ws) ({ frames := 7, cells := 2, slots := 3, locals := 88 } : Room)) (fun a U => a = #[(.ref oa)] ∧ Z.Warmed39 U.vm ∧ U.heap = h0) (fun _ _ _ _ _ => True) (fun _ U o U' => ∃ v L, o = .returned v ∧ Q_cp1 Z oa t y1 kt dc el ea em mr kd ke h0 n0 v U'.heap L ∧ FrameEnd U o U' L ({ frames := 7, cells := 2, slots := 3, locals := 88 } : Room).cells ({ frames := 7, cells := 2, slots := 3, locals := 88 } : Room).slots) := by
  refine MetFree.of_bodySF (plainFor_of_name own_pn_java_util_List) hisR ?_
  intro p e s m args below meth c s₁ Bd hml0 hP hK
  obtain ⟨rfl, hZ, hh⟩ := hP
  have hx := Bd.exec
  have hby := Bd.bytes
  have hml : c.maxLocals = 1 := hml0
  have hown : s.vm.findClass "java/util/List" = some m.cls := findClass_of_methodNamed Bd.named
  have hnm := (name_of_methodNamed Bd.named Bd.method).1
  have X0 : Stand p l e ({ frames := 7, cells := 2, slots := 3, locals := 88 } : Room) s m #[(.ref oa)] below meth c s₁ [] 0 0 := Stand.of_body Bd
  have e0 : s₁.heap = h0 := by rw [← hh, Bd.state]; rfl
  have N0 := Fr.nil n0
  refine own_start (F0 := fun o U' => ∃ v L, o = .returned v ∧ Q_cp1 Z oa t y1 kt dc el ea em mr kd ke h0 n0 v U'.heap L ∧ FrameEnd s o U' L ({ frames := 7, cells := 2, slots := 3, locals := 88 } : Room).cells ({ frames := 7, cells := 2, slots := 3, locals := 88 } : Room).slots) fun F hF => ?_
  rw [own_ef_cp1 m oa]
  refine own_st (V := s₁.setTop (mkF m 1 #[.val (.ref oa)] [(.ref oa)])) (fun _ hk => XS.aloadN X0.here hx rfl (hb hby d17_0) rfl rfl hk) ?_
  obtain ⟨_, _, ⟨T1, L1, k1, n1⟩, -, X1, ⟨Lc1, hQ1, l1, y1, z1⟩, st1⟩ := Jvm.LawKit.callS X0 hx (y := (⟨"java/util/ImmutableCollections", "listCopy", "(Ljava/util/Collection;)Ljava/util/List;"⟩ : MethodName)) hown (mvT hZ (hw _ (List.mem_of_getElem? (i := 132) rfl))) (mvT hZ (hw _ (List.mem_of_getElem? (i := 133) rfl))) (mvT hZ (hw _ (List.mem_of_getElem? (i := 134) rfl))) (mvT hZ (hw _ (List.mem_of_getElem? (i := 135) rfl))) (by decide) (backOf (W := 0) (rm_lc1 l Z a0 hw [] oa t y1 kt dc el ea em mr kd ke h0 n0 Z0 O hT E_a F_z F_e V_t E_t E_y1) hZ (hw _ (List.mem_of_getElem? (i := 135) rfl)) (hw _ (List.mem_of_getElem? (i := 134) rfl)) (by decide) (by decide)) (g := (mkF m 1 #[.val (.ref oa)] [(.ref oa)])) rfl (by rw [hml]; rfl) (argsL := [(.ref oa)]) (rest := []) (lenOf own_pd19 rfl) rfl (by show 2 * 0 + _ ≤ _; exact Nat.le_of_eq rfl) (hb hby d17_1) (fun _ _ => ⟨rfl, e0, (by decide : 0 + 2 ≤ _), (by decide : 0 + 3 ≤ _)⟩)
  dsimp only [Pt.U, Pt.locs, Pt.cells, Pt.slots] at X1 l1 y1 z1 st1 hQ1
  subst l1 y1 z1
  obtain ⟨r, rfl, N1q, Kc, szr, E_r, G_0, G_1⟩ := hQ1
  have N1 := Fr.app N0 N1q
  refine own_st (V := T1.setTop (mkF m 4 #[.val (.ref oa)] [(.ref r)])) st1 ?_
  exact own_retA X1 hx Bd.notSynchronized Bd.returns rfl rfl (hb hby d17_4) (by decide) (by decide) (fun U hU hE => hF _ _ ⟨_, _, rfl, (by rw [hU]; exact ⟨_, rfl, N1, Kc, szr, E_r, G_0, G_1⟩), hE⟩)
theorem own_ef_lc2 (m : MethodId) (x0 : Addr) : entryFrame m #[(.ref x0)] 2 = mkF m 0 #[.val (.ref x0), .unset] [] := by first | (simp [entryFrame, mkF, argsToLocals, Value.category]; done) | rfl
def Q_lc2 (Z : State) (oa t y1 y2 : Addr) (kt : ClassId) (dc el ea em mr : Addr) (kd ke : ClassId) (h0 : Heap) (n0 : Nat) (v : Option Value) (h : Heap) (L : List Loc) : Prop := ∃ r : Addr, v = some (.ref r) ∧ Fr n0 L ∧ Keep h0 h [] ∧ h0.size ≤ r ∧ Exa Z h r "java/util/ImmutableCollections$List12" ∧ Fld Z h r "java/util/ImmutableCollections$List12" "e0" "Ljava/lang/Object;" (.ref y1) ∧ Fld Z h r "java/util/ImmutableCollections$List12" "e1" "Ljava/lang/Object;" (.ref y2)
set_option maxRecDepth 65536 in
set_option maxHeartbeats 40000000 in
theorem rm_lc2 (l : Launch) (Z : State) (a0 : Array Value) (hw : ∀ d ∈ tables_1, d.before a0 Z = true) (ws : List Jvm.Cond) (oa t y1 y2 : Addr) (kt : ClassId) (dc el ea em mr : Addr) (kd ke : ClassId) (h0 : Heap) (n0 : Nat) (Z0 : n0 ≤ h0.size) (O : Old Z n0 h0) (hT : own_ST Z dc el ea em mr kd ke) (E_a : Exa Z h0 oa "java/util/ArrayList") (F_z : Fld Z h0 oa "java/util/ArrayList" "size" "I" (.int 2)) (F_e : Fld Z h0 oa "java/util/ArrayList" "elementData" "[Ljava/lang/Object;" (.ref t)) (V_t : Arv Z h0 t kt (.object "java/lang/Object") (10 : Int32) [(.ref y1), (.ref y2), .null, .null, .null, .null, .null, .null, .null, .null] .null) (E_t : Exa Z h0 t "[Ljava/lang/Object;") (E_y1 : Exa Z h0 y1 "com/example/vestline/vestline/service/SetAside") (E_y2 : Exa Z h0 y2 "com/example/vestline/vestline/service/SetAside") :
    MetFree l (⟨"java/util/ImmutableCollections", "listCopy", "(Ljava/util/Collection;)Ljava/util/List;"⟩ : MethodName) (head1 (Jvm.Cond.code (⟨"java/util/ImmutableCollections", "listCopy", "(Ljava/util/Collection;)Ljava/util/List;"⟩ : MethodName) jdk_56_method_3_code 2 (some (.object "java/util/List")) :: ws) ({ frames := 6, cells := 2, slots := 4, locals := 76 } : Room)) (fun a U => a = #[(.ref oa)] ∧ Z.Warmed39 U.vm ∧ U.heap = h0) (fun _ _ _ _ _ => True) (fun _ U o U' => ∃ v L, o = .returned v ∧ Q_lc2 Z oa t y1 y2 kt dc el ea em mr kd ke h0 n0 v U'.heap L ∧ FrameEnd U o U' L ({ frames := 6, cells := 2, slots := 4, locals := 76 } : Room).cells ({ frames := 6, cells := 2, slots := 4, locals := 76 } : Room).slots) := by
  refine MetFree.of_bodySF (plainFor_of_name own_pn_java_util_ImmutableCollections) hisR ?_
  intro p e s m args below meth c s₁ Bd hml0 hP hK
  obtain ⟨rfl, hZ, hh⟩ := hP
  have hx := Bd.exec
  have hby := Bd.bytes
  have hml : c.maxLocals = 2 := hml0
  have hown : s.vm.findClass "java/util/ImmutableCollections" = some m.cls := findClass_of_methodNamed Bd.named
  have hnm := (name_of_methodNamed Bd.named Bd.method).1
  have X0 : Stand p l e ({ frames := 6, cells := 2, slots := 4, locals := 76 } : Room) s m #[(.ref oa)] below meth c s₁ [] 0 0 := Stand.of_body Bd
  have e0 : s₁.heap = h0 := by rw [← hh, Bd.state]; rfl
  have N0 := Fr.nil n0
  refine own_start (F0 := fun o U' => ∃ v L, o = .returned v ∧ Q_lc2 Z oa t y1 y2 kt dc el ea em mr kd ke h0 n0 v U'.heap L ∧ FrameEnd s o U' L ({ frames := 6, cells := 2, slots := 4, locals := 76 } : Room).cells ({ frames := 6, cells := 2, slots := 4, locals := 76 } : Room).slots) fun F hF => ?_
  rw [own_ef_lc2 m oa]
  have K := Keep.refl h0 []
  have hT' := hT
  obtain ⟨Sdc, Vdc, Sel, Eel, Fel, Vea, Sem, Eem, hM⟩ := hT
  refine own_st (V := s₁.setTop (mkF m 1 #[.val (.ref oa), .unset] [(.ref oa)])) (fun _ hk => XS.aloadN X0.here hx rfl (hb hby d18_0) rfl rfl hk) ?_
  obtain ⟨T1, X1, e1, st1⟩ := instNo X0 hx hZ hown (hw _ (List.mem_of_getElem? (i := 136) rfl)) e0 E_a (own_nsNoF (hw _ (List.mem_of_getElem? (i := 137) rfl)) (hw _ (List.mem_of_getElem? (i := 270) rfl)) rfl (NS.step (hw _ (List.mem_of_getElem? (i := 137) rfl)) (NS.step (hw _ (List.mem_of_getElem? (i := 138) rfl)) (NS.step (hw _ (List.mem_of_getElem? (i := 139) rfl)) (own_nsRootF (hw _ (List.mem_of_getElem? (i := 140) rfl)) (own_foundS (hw _ (List.mem_of_getElem? (i := 270) rfl))) (by decide)) (by decide)) (by decide)) (by decide)) (by decide)) (g := (mkF m 1 #[.val (.ref oa), .unset] [(.ref oa)])) rfl rfl (hb hby d18_1)
  refine own_st (V := T1.setTop (mkF m 4 #[.val (.ref oa), .unset] [(.int (0 : Int32))])) st1 ?_
  refine own_st (V := T1.setTop (mkF m 7 #[.val (.ref oa), .unset] [])) (fun _ hk => XS.ifNo X1.here hx rfl (hb hby d18_4) rfl ((if0 _ _).trans (teq (show (0 : Int32) = (0 : Int32) from rfl)).2) hk) ?_
  refine own_st (V := T1.setTop (mkF m 8 #[.val (.ref oa), .unset] [(.ref oa)])) (fun _ hk => XS.aloadN X1.here hx rfl (hb hby d18_7) rfl rfl hk) ?_
  obtain ⟨T2, X2, e2, st2⟩ := instNo X1 hx hZ hown (hw _ (List.mem_of_getElem? (i := 141) rfl)) e1 E_a (own_nsNoF (hw _ (List.mem_of_getElem? (i := 137) rfl)) (hw _ (List.mem_of_getElem? (i := 171) rfl)) rfl (NS.step (hw _ (List.mem_of_getElem? (i := 137) rfl)) (NS.step (hw _ (List.mem_of_getElem? (i := 138) rfl)) (NS.step (hw _ (List.mem_of_getElem? (i := 139) rfl)) (own_nsRootF (hw _ (List.mem_of_getElem? (i := 140) rfl)) (own_foundS (hw _ (List.mem_of_getElem? (i := 171) rfl))) (by decide)) (by decide)) (by decide)) (by decide)) (by decide)) (g := (mkF m 8 #[.val (.ref oa), .unset] [(.ref oa)])) rfl rfl (hb hby d18_8)
  refine own_st (V := T2.setTop (mkF m 11 #[.val (.ref oa), .unset] [(.int (0 : Int32))])) st2 ?_
  refine own_st (V := T2.setTop (mkF m 31 #[.val (.ref oa), .unset] [])) (fun _ hk => XS.ifYes X2.here hx rfl (pc0 := 11) (pc' := 31) rfl (hb hby d18_11) rfl ((if0 _ _).trans (teq (show (0 : Int32) = (0 : Int32) from rfl)).1) (by decide) (by decide) hk) ?_
  refine own_st (V := T2.setTop (mkF m 32 #[.val (.ref oa), .unset] [(.ref oa)])) (fun _ hk => XS.aloadN X2.here hx rfl (hb hby d18_31) rfl rfl hk) ?_
  obtain ⟨cq3, kq3, q3a, q3b, q3c⟩ := isOf hZ e2 E_a
  obtain ⟨_, _, ⟨T3, L3, k3, n3⟩, -, X3, ⟨Lc3, hQ3, l3, y3, z3⟩, st3⟩ := X2.interfaceBack hx (xi := (⟨"java/util/Collection", "isEmpty", "()Z"⟩ : MethodName)) (y := (⟨"java/util/ArrayList", "isEmpty", "()Z"⟩ : MethodName)) hown (mvT hZ (hw _ (List.mem_of_getElem? (i := 142) rfl))) (mvT hZ (hw _ (List.mem_of_getElem? (i := 143) rfl))) (mvT hZ (hw _ (List.mem_of_getElem? (i := 144) rfl))) (mvT hZ (hw _ (List.mem_of_getElem? (i := 145) rfl))) (mvT hZ (hw _ (List.mem_of_getElem? (i := 146) rfl))) (mvT hZ (hw _ (List.mem_of_getElem? (i := 147) rfl))) (mvT hZ (hw _ (List.mem_of_getElem? (i := 148) rfl))) (mvT hZ (hw _ (List.mem_of_getElem? (i := 149) rfl))) (by decide) (backOf (W := 0) (rm_isEmp2 l Z a0 hw [] oa h0 n0 Z0 F_z) hZ (hw _ (List.mem_of_getElem? (i := 150) rfl)) (hw _ (List.mem_of_getElem? (i := 99) rfl)) (by decide) (by decide)) q3a q3b q3c (g := (mkF m 32 #[.val (.ref oa), .unset] [(.ref oa)])) rfl (by rw [hml]; rfl) (Steps.refl _) (argsL := []) (rest := []) (lenOf own_pd17 rfl) rfl (by show 2 * 0 + _ ≤ _; exact Nat.le_of_eq rfl) (hb hby d18_32) (fun _ _ => ⟨rfl, e2, (by decide : 0 + 0 ≤ _), (by decide : 0 + 0 ≤ _)⟩)
  dsimp only [Pt.U, Pt.locs, Pt.cells, Pt.slots] at X3 l3 y3 z3 st3 hQ3
  subst l3 y3 z3
  obtain ⟨rfl, N3q, es3⟩ := hQ3
  have N3 := Fr.app N0 N3q
  refine own_tr (V := T3.setTop (mkF m 37 #[.val (.ref oa), .unset] [(.int (0 : Int32))])) st3 ?_
  refine own_st (V := T3.setTop (mkF m 44 #[.val (.ref oa), .unset] [])) (fun _ hk => XS.ifYes X3.here hx rfl (pc0 := 37) (pc' := 44) rfl (hb hby d18_37) rfl ((if0 _ _).trans (teq (show (0 : Int32) = (0 : Int32) from rfl)).1) (by decide) (by decide) hk) ?_
  refine own_st (V := T3.setTop (mkF m 45 #[.val (.ref oa), .unset] [(.ref oa)])) (fun _ hk => XS.aloadN X3.here hx rfl (hb hby d18_44) rfl rfl hk) ?_
  obtain ⟨cq4, kq4, q4a, q4b, q4c⟩ := isOf hZ es3 E_a
  obtain ⟨_, _, ⟨T4, L4, k4, n4⟩, -, X4, ⟨Lc4, hQ4, l4, y4, z4⟩, st4⟩ := X3.interfaceBack hx (xi := (⟨"java/util/Collection", "toArray", "()[Ljava/lang/Object;"⟩ : MethodName)) (y := (⟨"java/util/ArrayList", "toArray", "()[Ljava/lang/Object;"⟩ : MethodName)) hown (mvT hZ (hw _ (List.mem_of_getElem? (i := 209) rfl))) (mvT hZ (hw _ (List.mem_of_getElem? (i := 210) rfl))) (mvT hZ (hw _ (List.mem_of_getElem? (i := 211) rfl))) (mvT hZ (hw _ (List.mem_of_getElem? (i := 212) rfl))) (mvT hZ (hw _ (List.mem_of_getElem? (i := 213) rfl))) (mvT hZ (hw _ (List.mem_of_getElem? (i := 214) rfl))) (mvT hZ (hw _ (List.mem_of_getElem? (i := 215) rfl))) (mvT hZ (hw _ (List.mem_of_getElem? (i := 149) rfl))) (by decide) (backOf (W := 0) (rm_toArr2 l Z a0 hw [] oa t mr y1 y2 kt h0 n0 Z0 O F_e F_z V_t hM E_y1 E_y2 E_t) hZ (hw _ (List.mem_of_getElem? (i := 216) rfl)) (hw _ (List.mem_of_getElem? (i := 99) rfl)) (by decide) (by decide)) q4a q4b q4c (g := (mkF m 45 #[.val (.ref oa), .unset] [(.ref oa)])) rfl (by rw [hml]; rfl) (Steps.refl _) (argsL := []) (rest := []) (lenOf own_pd10 rfl) rfl (by show 2 * 0 + _ ≤ _; exact Nat.le_of_eq rfl) (hb hby d18_45) (fun _ _ => ⟨rfl, es3, (by decide : 0 + 1 ≤ _), (by decide : 0 + 2 ≤ _)⟩)
  dsimp only [Pt.U, Pt.locs, Pt.cells, Pt.slots] at X4 l4 y4 z4 st4 hQ4
  subst l4 y4 z4
  obtain ⟨r1, kr, rfl, N4q, Kc, V_r⟩ := hQ4
  have N4 := Fr.app N3 N4q
  refine own_tr (V := T4.setTop (mkF m 50 #[.val (.ref oa), .unset] [(.ref r1)])) st4 ?_
  have E_a := E_a.keep Kc
  have F_z := F_z.keep Kc nin0
  have F_e := F_e.keep Kc nin0
  have V_t := V_t.keep Kc nin0
  have E_t := E_t.keep Kc
  have E_y1 := E_y1.keep Kc
  have E_y2 := E_y2.keep Kc
  have Z0 : n0 ≤ T4.heap.size := Nat.le_trans Z0 Kc.1
  have O := O.keep Kc all0
  have K := K.trans Kc all0
  have hs0 := K.1
  obtain ⟨_, _, ⟨T5, L5, k5, n5⟩, -, X5, ⟨Lc5, hQ5, l5, y5, z5⟩, st5⟩ := Jvm.LawKit.callS X4 hx (y := (⟨"java/util/List", "of", "([Ljava/lang/Object;)Ljava/util/List;"⟩ : MethodName)) hown (mvT hZ (hw _ (List.mem_of_getElem? (i := 239) rfl))) (mvT hZ (hw _ (List.mem_of_getElem? (i := 240) rfl))) (mvT hZ (hw _ (List.mem_of_getElem? (i := 130) rfl))) (mvT hZ (hw _ (List.mem_of_getElem? (i := 241) rfl))) (by decide) (backOf (W := 0) (rm_of_2 l Z a0 hw [] r1 y1 y2 kr dc el ea em mr kd ke T4.heap n0 Z0 O hT' V_r) hZ (hw _ (List.mem_of_getElem? (i := 241) rfl)) (hw _ (List.mem_of_getElem? (i := 130) rfl)) (by decide) (by decide)) (g := (mkF m 50 #[.val (.ref oa), .unset] [(.ref r1)])) rfl (by rw [hml]; rfl) (argsL := [(.ref r1)]) (rest := []) (lenOf own_pd20 rfl) rfl (by show 2 * 0 + _ ≤ _; exact Nat.le_of_eq rfl) (hb hby d18_50) (fun _ _ => ⟨rfl, rfl, (by decide : 1 + 1 ≤ _), (by decide : 2 + 2 ≤ _)⟩)
  dsimp only [Pt.U, Pt.locs, Pt.cells, Pt.slots] at X5 l5 y5 z5 st5 hQ5
  subst l5 y5 z5
  obtain ⟨r, rfl, N5q, Kd, szr, E_r, G_0, G_1⟩ := hQ5
  have N5 := Fr.app N4 N5q
  refine own_st (V := T5.setTop (mkF m 53 #[.val (.ref oa), .unset] [(.ref r)])) st5 ?_
  have E_a := E_a.keep Kd
  have F_z := F_z.keep Kd nin0
  have F_e := F_e.keep Kd nin0
  have V_t := V_t.keep Kd nin0
  have E_t := E_t.keep Kd
  have E_y1 := E_y1.keep Kd
  have E_y2 := E_y2.keep Kd
  have Z0 : n0 ≤ T5.heap.size := Nat.le_trans Z0 Kd.1
  have O := O.keep Kd all0
  have K := K.trans Kd all0
  exact own_retA X5 hx Bd.notSynchronized Bd.returns rfl rfl (hb hby d18_53) (by decide) (by decide) (fun U hU hE => hF _ _ ⟨_, _, rfl, (by rw [hU]; exact ⟨_, rfl, N5, K, Nat.le_trans hs0 szr, E_r, G_0, G_1⟩), hE⟩)
theorem own_ef_cp2 (m : MethodId) (x0 : Addr) : entryFrame m #[(.ref x0)] 1 = mkF m 0 #[.val (.ref x0)] [] := by first | (simp [entryFrame, mkF, argsToLocals, Value.category]; done) | rfl
def Q_cp2 (Z : State) (oa t y1 y2 : Addr) (kt : ClassId) (dc el ea em mr : Addr) (kd ke : ClassId) (h0 : Heap) (n0 : Nat) (v : Option Value) (h : Heap) (L : List Loc) : Prop := ∃ r : Addr, v = some (.ref r) ∧ Fr n0 L ∧ Keep h0 h [] ∧ h0.size ≤ r ∧ Exa Z h r "java/util/ImmutableCollections$List12" ∧ Fld Z h r "java/util/ImmutableCollections$List12" "e0" "Ljava/lang/Object;" (.ref y1) ∧ Fld Z h r "java/util/ImmutableCollections$List12" "e1" "Ljava/lang/Object;" (.ref y2)
set_option maxRecDepth 65536 in
set_option maxHeartbeats 40000000 in
theorem rm_cp2 (l : Launch) (Z : State) (a0 : Array Value) (hw : ∀ d ∈ tables_1, d.before a0 Z = true) (ws : List Jvm.Cond) (oa t y1 y2 : Addr) (kt : ClassId) (dc el ea em mr : Addr) (kd ke : ClassId) (h0 : Heap) (n0 : Nat) (Z0 : n0 ≤ h0.size) (O : Old Z n0 h0) (hT : own_ST Z dc el ea em mr kd ke) (E_a : Exa Z h0 oa "java/util/ArrayList") (F_z : Fld Z h0 oa "java/util/ArrayList" "size" "I" (.int 2)) (F_e : Fld Z h0 oa "java/util/ArrayList" "elementData" "[Ljava/lang/Object;" (.ref t)) (V_t : Arv Z h0 t kt (.object "java/lang/Object") (10 : Int32) [(.ref y1), (.ref y2), .null, .null, .null, .null, .null, .null, .null, .null] .null) (E_t : Exa Z h0 t "[Ljava/lang/Object;") (E_y1 : Exa Z h0 y1 "com/example/vestline/vestline/service/SetAside") (E_y2 : Exa Z h0 y2 "com/example/vestline/vestline/service/SetAside") :
    MetFree l (⟨"java/util/List", "copyOf", "(Ljava/util/Collection;)Ljava/util/List;"⟩ : MethodName) (head1 (Jvm.Cond.code (⟨"java/util/List", "copyOf", "(Ljava/util/Collection;)Ljava/util/List;"⟩ : MethodName) jdk_40_method_48_code 1 (some (.object "java/util/List")) :: ws) ({ frames := 7, cells := 2, slots := 4, locals := 89 } : Room)) (fun a U => a = #[(.ref oa)] ∧ Z.Warmed39 U.vm ∧ U.heap = h0) (fun _ _ _ _ _ => True) (fun _ U o U' => ∃ v L, o = .returned v ∧ Q_cp2 Z oa t y1 y2 kt dc el ea em mr kd ke h0 n0 v U'.heap L ∧ FrameEnd U o U' L ({ frames := 7, cells := 2, slots := 4, locals := 89 } : Room).cells ({ frames := 7, cells := 2, slots := 4, locals := 89 } : Room).slots) := by
  refine MetFree.of_bodySF (plainFor_of_name own_pn_java_util_List) hisR ?_
  intro p e s m args below meth c s₁ Bd hml0 hP hK
  obtain ⟨rfl, hZ, hh⟩ := hP
  have hx := Bd.exec
  have hby := Bd.bytes
  have hml : c.maxLocals = 1 := hml0
  have hown : s.vm.findClass "java/util/List" = some m.cls := findClass_of_methodNamed Bd.named
  have hnm := (name_of_methodNamed Bd.named Bd.method).1
  have X0 : Stand p l e ({ frames := 7, cells := 2, slots := 4, locals := 89 } : Room) s m #[(.ref oa)] below meth c s₁ [] 0 0 := Stand.of_body Bd
  have e0 : s₁.heap = h0 := by rw [← hh, Bd.state]; rfl
  have N0 := Fr.nil n0
  refine own_start (F0 := fun o U' => ∃ v L, o = .returned v ∧ Q_cp2 Z oa t y1 y2 kt dc el ea em mr kd ke h0 n0 v U'.heap L ∧ FrameEnd s o U' L ({ frames := 7, cells := 2, slots := 4, locals := 89 } : Room).cells ({ frames := 7, cells := 2, slots := 4, locals := 89 } : Room).slots) fun F hF => ?_
  rw [own_ef_cp2 m oa]
  refine own_st (V := s₁.setTop (mkF m 1 #[.val (.ref oa)] [(.ref oa)])) (fun _ hk => XS.aloadN X0.here hx rfl (hb hby d17_0) rfl rfl hk) ?_
  obtain ⟨_, _, ⟨T1, L1, k1, n1⟩, -, X1, ⟨Lc1, hQ1, l1, y1, z1⟩, st1⟩ := Jvm.LawKit.callS X0 hx (y := (⟨"java/util/ImmutableCollections", "listCopy", "(Ljava/util/Collection;)Ljava/util/List;"⟩ : MethodName)) hown (mvT hZ (hw _ (List.mem_of_getElem? (i := 132) rfl))) (mvT hZ (hw _ (List.mem_of_getElem? (i := 133) rfl))) (mvT hZ (hw _ (List.mem_of_getElem? (i := 134) rfl))) (mvT hZ (hw _ (List.mem_of_getElem? (i := 135) rfl))) (by decide) (backOf (W := 0) (rm_lc2 l Z a0 hw [] oa t y1 y2 kt dc el ea em mr kd ke h0 n0 Z0 O hT E_a F_z F_e V_t E_t E_y1 E_y2) hZ (hw _ (List.mem_of_getElem? (i := 135) rfl)) (hw _ (List.mem_of_getElem? (i := 134) rfl)) (by decide) (by decide)) (g := (mkF m 1 #[.val (.ref oa)] [(.ref oa)])) rfl (by rw [hml]; rfl) (argsL := [(.ref oa)]) (rest := []) (lenOf own_pd19 rfl) rfl (by show 2 * 0 + _ ≤ _; exact Nat.le_of_eq rfl) (hb hby d17_1) (fun _ _ => ⟨rfl, e0, (by decide : 0 + 2 ≤ _), (by decide : 0 + 4 ≤ _)⟩)
  dsimp only [Pt.U, Pt.locs, Pt.cells, Pt.slots] at X1 l1 y1 z1 st1 hQ1
  subst l1 y1 z1
  obtain ⟨r, rfl, N1q, Kc, szr, E_r, G_0, G_1⟩ := hQ1
  have N1 := Fr.app N0 N1q
  refine own_st (V := T1.setTop (mkF m 4 #[.val (.ref oa)] [(.ref r)])) st1 ?_
  exact own_retA X1 hx Bd.notSynchronized Bd.returns rfl rfl (hb hby d17_4) (by decide) (by decide) (fun U hU hE => hF _ _ ⟨_, _, rfl, (by rw [hU]; exact ⟨_, rfl, N1, Kc, szr, E_r, G_0, G_1⟩), hE⟩)
theorem d16_0 : decode prog_76_method_1_code 0 = .ok (.aload_n 0, 1) := by decide +kernel
theorem d16_1 : decode prog_76_method_1_code 1 = .ok (.invokespecial 1, 3) := by decide +kernel
theorem d16_4 : decode prog_76_method_1_code 4 = .ok (.aload_n 1, 1) := by decide +kernel
theorem d16_5 : decode prog_76_method_1_code 5 = .ok (.invokestatic 7, 3) := by decide +kernel
theorem d16_8 : decode prog_76_method_1_code 8 = .ok (.astore_n 1, 1) := by decide +kernel
theorem d16_9 : decode prog_76_method_1_code 9 = .ok (.aload_n 3, 1) := by decide +kernel
theorem d16_10 : decode prog_76_method_1_code 10 = .ok (.invokestatic 7, 3) := by decide +kernel
theorem d16_13 : decode prog_76_method_1_code 13 = .ok (.astore_n 3, 1) := by decide +kernel
theorem d16_14 : decode prog_76_method_1_code 14 = .ok (.aload_n 0, 1) := by decide +kernel
theorem d16_15 : decode prog_76_method_1_code 15 = .ok (.aload_n 1, 1) := by decide +kernel
theorem d16_16 : decode prog_76_method_1_code 16 = .ok (.putfield 13, 3) := by decide +kernel
theorem d16_19 : decode prog_76_method_1_code 19 = .ok (.aload_n 0, 1) := by decide +kernel
theorem d16_20 : decode prog_76_method_1_code 20 = .ok (.iload_n 2, 1) := by decide +kernel
theorem d16_21 : decode prog_76_method_1_code 21 = .ok (.putfield 19, 3) := by decide +kernel
theorem d16_24 : decode prog_76_method_1_code 24 = .ok (.aload_n 0, 1) := by decide +kernel
theorem d16_25 : decode prog_76_method_1_code 25 = .ok (.aload_n 3, 1) := by decide +kernel
theorem d16_26 : decode prog_76_method_1_code 26 = .ok (.putfield 23, 3) := by decide +kernel
theorem d16_29 : decode prog_76_method_1_code 29 = .ok (.return_, 1) := by decide +kernel
theorem own_pn_com_example_vestline_vestline_service_ServiceCount : plainName "com/example/vestline/vestline/service/ServiceCount" = true := by first | (simp [plainName, overriddenIn]; done) | decide +kernel
theorem own_ef_scInit0 (m : MethodId) (x0 : Addr) (x1 : Addr) (x2 : Int32) (x3 : Addr) : entryFrame m #[(.ref x0), (.ref x1), (.int x2), (.ref x3)] 4 = mkF m 0 #[.val (.ref x0), .val (.ref x1), .val (.int x2), .val (.ref x3)] [] := by first | (simp [entryFrame, mkF, argsToLocals, Value.category]; done) | rfl
def Q_scInit0 (Z : State) (sc pl : Addr) (yy : Int32) (u1 u2 u3 : Value) (oa : Addr) (dc el ea em mr : Addr) (kd ke : ClassId) (h0 : Heap) (n0 : Nat) (v : Option Value) (h : Heap) (L : List Loc) : Prop := v = none ∧ Fr n0 L ∧ Keep h0 h [sc] ∧ Fld Z h sc "com/example/vestline/vestline/service/ServiceCount" "setAsides" "Ljava/util/List;" (.ref el)
set_option maxRecDepth 65536 in
set_option maxHeartbeats 40000000 in
theorem rm_scInit0 (l : Launch) (Z : State) (a0 : Array Value) (hw : ∀ d ∈ tables_1, d.before a0 Z = true) (ws : List Jvm.Cond) (sc pl : Addr) (yy : Int32) (u1 u2 u3 : Value) (oa : Addr) (dc el ea em mr : Addr) (kd ke : ClassId) (h0 : Heap) (n0 : Nat) (Z0 : n0 ≤ h0.size) (O : Old Z n0 h0) (hT : own_ST Z dc el ea em mr kd ke) (E_s : Exa Z h0 sc "com/example/vestline/vestline/service/ServiceCount") (F_s1 : Fld Z h0 sc "com/example/vestline/vestline/service/ServiceCount" "periods" "Ljava/util/List;" u1) (F_s2 : Fld Z h0 sc "com/example/vestline/vestline/service/ServiceCount" "years" "I" u2) (F_s3 : Fld Z h0 sc "com/example/vestline/vestline/service/ServiceCount" "setAsides" "Ljava/util/List;" u3) (g_sc : n0 ≤ sc) (E_p : Exa Z h0 pl "java/util/ArrayList") (F_p : Fld Z h0 pl "java/util/ArrayList" "size" "I" (.int 0)) (E_a : Exa Z h0 oa "java/util/ArrayList") (F_z : Fld Z h0 oa "java/util/ArrayList" "size" "I" (.int 0)) :
    MetFree l (⟨"com/example/vestline/vestline/service/ServiceCount", "<init>", "(Ljava/util/List;ILjava/util/List;)V"⟩ : MethodName) (head1 (Jvm.Cond.code (⟨"com/example/vestline/vestline/service/ServiceCount", "<init>", "(Ljava/util/List;ILjava/util/List;)V"⟩ : MethodName) prog_76_method_1_code 4 none :: ws) ({ frames := 3, cells := 0, slots := 0, locals := 37 } : Room)) (fun a U => a = #[(.ref sc), (.ref pl), (.int yy), (.ref oa)] ∧ Z.Warmed39 U.vm ∧ U.heap = h0) (fun _ _ _ _ _ => True) (fun _ U o U' => ∃ v L, o = .returned v ∧ Q_scInit0 Z sc pl yy u1 u2 u3 oa dc el ea em mr kd ke h0 n0 v U'.heap L ∧ FrameEnd U o U' L ({ frames := 3, cells := 0, slots := 0, locals := 37 } : Room).cells ({ frames := 3, cells := 0, slots := 0, locals := 37 } : Room).slots) := by
  refine MetFree.of_bodySF (plainFor_of_name own_pn_com_example_vestline_vestline_service_ServiceCount) hisR ?_
  intro p e s m args below meth c s₁ Bd hml0 hP hK
  obtain ⟨rfl, hZ, hh⟩ := hP
  have hx := Bd.exec
  have hby := Bd.bytes
  have hml : c.maxLocals = 4 := hml0
  have hown : s.vm.findClass "com/example/vestline/vestline/service/ServiceCount" = some m.cls := findClass_of_methodNamed Bd.named
  have hnm := (name_of_methodNamed Bd.named Bd.method).1
  have X0 : Stand p l e ({ frames := 3, cells := 0, slots := 0, locals := 37 } : Room) s m #[(.ref sc), (.ref pl), (.int yy), (.ref oa)] below meth c s₁ [] 0 0 := Stand.of_body Bd
  have e0 : s₁.heap = h0 := by rw [← hh, Bd.state]; rfl
  have N0 := Fr.nil n0
  refine own_start (F0 := fun o U' => ∃ v L, o = .returned v ∧ Q_scInit0 Z sc pl yy u1 u2 u3 oa dc el ea em mr kd ke h0 n0 v U'.heap L ∧ FrameEnd s o U' L ({ frames := 3, cells := 0, slots := 0, locals := 37 } : Room).cells ({ frames := 3, cells := 0, slots := 0, locals := 37 } : Room).slots) fun F hF => ?_
  rw [own_ef_scInit0 m sc pl yy oa]
  have K := Keep.refl h0 [sc]
  have E_s0 := E_s.lt
  refine own_st (V := s₁.setTop (mkF m 1 #[.val (.ref sc), .val (.ref pl), .val (.int yy), .val (.ref oa)] [(.ref sc)])) (fun _ hk => XS.aloadN X0.here hx rfl (hb hby d16_0) rfl rfl hk) ?_
  obtain ⟨_, _, ⟨T1, L1, k1, n1⟩, -, X1, ⟨Lc1, hQ1, l1, y1, z1⟩, st1⟩ := X0.specialBack hx (y := (⟨"java/lang/Record", "<init>", "()V"⟩ : MethodName)) rfl hown (mvT hZ (hw _ (List.mem_of_getElem? (i := 127) rfl))) (mvT hZ (hw _ (List.mem_of_getElem? (i := 75) rfl))) (mvT hZ (hw _ (List.mem_of_getElem? (i := 78) rfl))) (by decide) (backOf (W := 0) (rm_record l Z a0 hw [] sc h0 n0 Z0) hZ (hw _ (List.mem_of_getElem? (i := 78) rfl)) (hw _ (List.mem_of_getElem? (i := 77) rfl)) (by decide) (by decide)) (g := (mkF m 1 #[.val (.ref sc), .val (.ref pl), .val (.int yy), .val (.ref oa)] [(.ref sc)])) rfl (by rw [hml]; rfl) (Steps.refl _) (a := sc) (argsL := []) (rest := []) (lenOf own_pd6 rfl) rfl (by show 2 * 0 + _ ≤ _; exact Nat.le_of_eq rfl) (hb hby d16_1) (fun _ _ => ⟨rfl, e0, (by decide : 0 + 0 ≤ _), (by decide : 0 + 0 ≤ _)⟩)
  dsimp only [Pt.U, Pt.locs, Pt.cells, Pt.slots] at X1 l1 y1 z1 st1 hQ1
  subst l1 y1 z1
  obtain ⟨rfl, N1q, es1⟩ := hQ1
  have N1 := Fr.app N0 N1q
  refine own_tr (V := T1.setTop (mkF m 4 #[.val (.ref sc), .val (.ref pl), .val (.int yy), .val (.ref oa)] [])) st1 ?_
  refine own_st (V := T1.setTop (mkF m 5 #[.val (.ref sc), .val (.ref pl), .val (.int yy), .val (.ref oa)] [(.ref pl)])) (fun _ hk => XS.aloadN X1.here hx rfl (hb hby d16_4) rfl rfl hk) ?_
  obtain ⟨_, _, ⟨T2, L2, k2, n2⟩, -, X2, ⟨Lc2, hQ2, l2, y2, z2⟩, st2⟩ := Jvm.LawKit.callS X1 hx (y := (⟨"java/util/List", "copyOf", "(Ljava/util/Collection;)Ljava/util/List;"⟩ : MethodName)) hown (mvT hZ (hw _ (List.mem_of_getElem? (i := 128) rfl))) (mvT hZ (hw _ (List.mem_of_getElem? (i := 129) rfl))) (mvT hZ (hw _ (List.mem_of_getElem? (i := 130) rfl))) (mvT hZ (hw _ (List.mem_of_getElem? (i := 131) rfl))) (by decide) (backOf (W := 0) (rm_cp0 l Z a0 hw [] pl dc el ea em mr kd ke h0 n0 Z0 O hT E_p F_p) hZ (hw _ (List.mem_of_getElem? (i := 131) rfl)) (hw _ (List.mem_of_getElem? (i := 130) rfl)) (by decide) (by decide)) (g := (mkF m 5 #[.val (.ref sc), .val (.ref pl), .val (.int yy), .val (.ref oa)] [(.ref pl)])) rfl (by rw [hml]; rfl) (argsL := [(.ref pl)]) (rest := []) (lenOf own_pd19 rfl) rfl (by show 2 * 0 + _ ≤ _; exact Nat.le_of_eq rfl) (hb hby d16_5) (fun _ _ => ⟨rfl, es1, (by decide : 0 + 0 ≤ _), (by decide : 0 + 0 ≤ _)⟩)
  dsimp only [Pt.U, Pt.locs, Pt.cells, Pt.slots] at X2 l2 y2 z2 st2 hQ2
  subst l2 y2 z2
  obtain ⟨rfl, N2q, es2⟩ := hQ2
  have N2 := Fr.app N1 N2q
  refine own_st (V := T2.setTop (mkF m 8 #[.val (.ref sc), .val (.ref pl), .val (.int yy), .val (.ref oa)] [(.ref el)])) st2 ?_
  refine own_st (V := T2.setTop (mkF m 9 #[.val (.ref sc), .val (.ref el), .val (.int yy), .val (.ref oa)] [])) (fun _ hk => XS.astoreN X2.here hx rfl (hb hby d16_8) rfl rfl (l' := #[.val (.ref sc), .val (.ref el), .val (.int yy), .val (.ref oa)]) rfl hk) ?_
  refine own_st (V := T2.setTop (mkF m 10 #[.val (.ref sc), .val (.ref el), .val (.int yy), .val (.ref oa)] [(.ref oa)])) (fun _ hk => XS.aloadN X2.here hx rfl (hb hby d16_9) rfl rfl hk) ?_
  obtain ⟨_, _, ⟨T3, L3, k3, n3⟩, -, X3, ⟨Lc3, hQ3, l3, y3, z3⟩, st3⟩ := Jvm.LawKit.callS X2 hx (y := (⟨"java/util/List", "copyOf", "(Ljava/util/Collection;)Ljava/util/List;"⟩ : MethodName)) hown (mvT hZ (hw _ (List.mem_of_getElem? (i := 128) rfl))) (mvT hZ (hw _ (List.mem_of_getElem? (i := 129) rfl))) (mvT hZ (hw _ (List.mem_of_getElem? (i := 130) rfl))) (mvT hZ (hw _ (List.mem_of_getElem? (i := 131) rfl))) (by decide) (backOf (W := 0) (rm_cp0 l Z a0 hw [] oa dc el ea em mr kd ke h0 n0 Z0 O hT E_a F_z) hZ (hw _ (List.mem_of_getElem? (i := 131) rfl)) (hw _ (List.mem_of_getElem? (i := 130) rfl)) (by decide) (by decide)) (g := (mkF m 10 #[.val (.ref sc), .val (.ref el), .val (.int yy), .val (.ref oa)] [(.ref oa)])) rfl (by rw [hml]; rfl) (argsL := [(.ref oa)]) (rest := []) (lenOf own_pd19 rfl) rfl (by show 2 * 0 + _ ≤ _; exact Nat.le_of_eq rfl) (hb hby d16_10) (fun _ _ => ⟨rfl, es2, (by decide : 0 + 0 ≤ _), (by decide : 0 + 0 ≤ _)⟩)
  dsimp only [Pt.U, Pt.locs, Pt.cells, Pt.slots] at X3 l3 y3 z3 st3 hQ3
  subst l3 y3 z3
  obtain ⟨rfl, N3q, es3⟩ := hQ3
  have N3 := Fr.app N2 N3q
  refine own_st (V := T3.setTop (mkF m 13 #[.val (.ref sc), .val (.ref el), .val (.int yy), .val (.ref oa)] [(.ref el)])) st3 ?_
  refine own_st (V := T3.setTop (mkF m 14 #[.val (.ref sc), .val (.ref el), .val (.int yy), .val (.ref el)] [])) (fun _ hk => XS.astoreN X3.here hx rfl (hb hby d16_13) rfl rfl (l' := #[.val (.ref sc), .val (.ref el), .val (.int yy), .val (.ref el)]) rfl hk) ?_
  refine own_st (V := T3.setTop (mkF m 15 #[.val (.ref sc), .val (.ref el), .val (.int yy), .val (.ref el)] [(.ref sc)])) (fun _ hk => XS.aloadN X3.here hx rfl (hb hby d16_14) rfl rfl hk) ?_
  refine own_st (V := T3.setTop (mkF m 16 #[.val (.ref sc), .val (.ref el), .val (.int yy), .val (.ref el)] [(.ref el), (.ref sc)])) (fun _ hk => XS.aloadN X3.here hx rfl (hb hby d16_15) rfl rfl hk) ?_
  obtain ⟨T4, h4, X4, e4, W4, st4⟩ := putF X3 hx hZ hown (host := "") (Or.inl (hw _ (List.mem_of_getElem? (i := 157) rfl))) Via.refl es3 F_s1 E_s (Or.inr ⟨(hw _ (List.mem_of_getElem? (i := 158) rfl)), rfl, hnm⟩) (hw _ (List.mem_of_getElem? (i := 122) rfl)) (ty := (.object "java/util/List")) (by decide) rfl rfl (g := (mkF m 16 #[.val (.ref sc), .val (.ref el), .val (.int yy), .val (.ref el)] [(.ref el), (.ref sc)])) rfl rfl (hb hby d16_16)
  have E_s := E_s.wr W4
  have F_s2 := F_s2.other W4 (Or.inr (slot_ne (Or.inr (hw _ (List.mem_of_getElem? (i := 160) rfl))) (Or.inr (hw _ (List.mem_of_getElem? (i := 158) rfl))) (by decide) (t := .int) (t' := (.object "java/util/List")) (by decide) (by decide)))
  have F_s3 := F_s3.other W4 (Or.inr (slot_ne (Or.inr (hw _ (List.mem_of_getElem? (i := 162) rfl))) (Or.inr (hw _ (List.mem_of_getElem? (i := 158) rfl))) (by decide) (t := (.object "java/util/List")) (t' := (.object "java/util/List")) (by decide) (by decide)))
  have F_s1 := F_s1.same W4
  have K := K.wr W4 (Or.inl (List.mem_of_getElem? (i := 0) rfl))
  have N4 := Fr.snoc X4 N3 g_sc
  have O := O.wr W4 g_sc
  have Z0 : n0 ≤ h4.size := Nat.le_trans Z0 (Keep.of_wr W4).1
  refine own_st (V := T4.setTop (mkF m 19 #[.val (.ref sc), .val (.ref el), .val (.int yy), .val (.ref el)] [])) st4 ?_
  refine own_st (V := T4.setTop (mkF m 20 #[.val (.ref sc), .val (.ref el), .val (.int yy), .val (.ref el)] [(.ref sc)])) (fun _ hk => XS.aloadN X4.here hx rfl (hb hby d16_19) rfl rfl hk) ?_
  refine own_st (V := T4.setTop (mkF m 21 #[.val (.ref sc), .val (.ref el), .val (.int yy), .val (.ref el)] [(.int yy), (.ref sc)])) (fun _ hk => XS.iloadN X4.here hx rfl (hb hby d16_20) rfl  hk) ?_
  obtain ⟨T5, h5, X5, e5, W5, st5⟩ := putF X4 hx hZ hown (host := "") (Or.inl (hw _ (List.mem_of_getElem? (i := 159) rfl))) Via.refl e4 F_s2 E_s (Or.inr ⟨(hw _ (List.mem_of_getElem? (i := 160) rfl)), rfl, hnm⟩) (hw _ (List.mem_of_getElem? (i := 122) rfl)) (ty := .int) (by decide) rfl rfl (g := (mkF m 21 #[.val (.ref sc), .val (.ref el), .val (.int yy), .val (.ref el)] [(.int yy), (.ref sc)])) rfl rfl (hb hby d16_21)
  have E_s := E_s.wr W5
  have F_s1 := F_s1.other W5 (Or.inr (slot_ne (Or.inr (hw _ (List.mem_of_getElem? (i := 158) rfl))) (Or.inr (hw _ (List.mem_of_getElem? (i := 160) rfl))) (by decide) (t := (.object "java/util/List")) (t' := .int) (by decide) (by decide)))
  have F_s3 := F_s3.other W5 (Or.inr (slot_ne (Or.inr (hw _ (List.mem_of_getElem? (i := 162) rfl))) (Or.inr (hw _ (List.mem_of_getElem? (i := 160) rfl))) (by decide) (t := (.object "java/util/List")) (t' := .int) (by decide) (by decide)))
  have F_s2 := F_s2.same W5
  have K := K.wr W5 (Or.inl (List.mem_of_getElem? (i := 0) rfl))
  have N5 := Fr.snoc X5 N4 g_sc
  have O := O.wr W5 g_sc
  have Z0 : n0 ≤ h5.size := Nat.le_trans Z0 (Keep.of_wr W5).1
  refine own_st (V := T5.setTop (mkF m 24 #[.val (.ref sc), .val (.ref el), .val (.int yy), .val (.ref el)] [])) st5 ?_
  refine own_st (V := T5.setTop (mkF m 25 #[.val (.ref sc), .val (.ref el), .val (.int yy), .val (.ref el)] [(.ref sc)])) (fun _ hk => XS.aloadN X5.here hx rfl (hb hby d16_24) rfl rfl hk) ?_
  refine own_st (V := T5.setTop (mkF m 26 #[.val (.ref sc), .val (.ref el), .val (.int yy), .val (.ref el)] [(.ref el), (.ref sc)])) (fun _ hk => XS.aloadN X5.here hx rfl (hb hby d16_25) rfl rfl hk) ?_
  obtain ⟨T6, h6, X6, e6, W6, st6⟩ := putF X5 hx hZ hown (host := "") (Or.inl (hw _ (List.mem_of_getElem? (i := 161) rfl))) Via.refl e5 F_s3 E_s (Or.inr ⟨(hw _ (List.mem_of_getElem? (i := 162) rfl)), rfl, hnm⟩) (hw _ (List.mem_of_getElem? (i := 122) rfl)) (ty := (.object "java/util/List")) (by decide) rfl rfl (g := (mkF m 26 #[.val (.ref sc), .val (.ref el), .val (.int yy), .val (.ref el)] [(.ref el), (.ref sc)])) rfl rfl (hb hby d16_26)
  have E_s := E_s.wr W6
  have F_s1 := F_s1.other W6 (Or.inr (slot_ne (Or.inr (hw _ (List.mem_of_getElem? (i := 158) rfl))) (Or.inr (hw _ (List.mem_of_getElem? (i := 162) rfl))) (by decide) (t := (.object "java/util/List")) (t' := (.object "java/util/List")) (by decide) (by decide)))
  have F_s2 := F_s2.other W6 (Or.inr (slot_ne (Or.inr (hw _ (List.mem_of_getElem? (i := 160) rfl))) (Or.inr (hw _ (List.mem_of_getElem? (i := 162) rfl))) (by decide) (t := .int) (t' := (.object "java/util/List")) (by decide) (by decide)))
  have F_s3 := F_s3.same W6
  have K := K.wr W6 (Or.inl (List.mem_of_getElem? (i := 0) rfl))
  have N6 := Fr.snoc X6 N5 g_sc
  have O := O.wr W6 g_sc
  have Z0 : n0 ≤ h6.size := Nat.le_trans Z0 (Keep.of_wr W6).1
  refine own_st (V := T6.setTop (mkF m 29 #[.val (.ref sc), .val (.ref el), .val (.int yy), .val (.ref el)] [])) st6 ?_
  exact own_retV X6 hx Bd.notSynchronized Bd.returns (hb hby d16_29) (by decide) (by decide) (fun U hU hE => hF _ _ ⟨_, _, rfl, (by rw [hU, e6]; exact ⟨rfl, N6, K, F_s3⟩), hE⟩)
theorem own_ef_scInit1 (m : MethodId) (x0 : Addr) (x1 : Addr) (x2 : Int32) (x3 : Addr) : entryFrame m #[(.ref x0), (.ref x1), (.int x2), (.ref x3)] 4 = mkF m 0 #[.val (.ref x0), .val (.ref x1), .val (.int x2), .val (.ref x3)] [] := by first | (simp [entryFrame, mkF, argsToLocals, Value.category]; done) | rfl
def Q_scInit1 (Z : State) (sc pl : Addr) (yy : Int32) (u1 u2 u3 : Value) (oa t y1 : Addr) (kt : ClassId) (dc el ea em mr : Addr) (kd ke : ClassId) (h0 : Heap) (n0 : Nat) (v : Option Value) (h : Heap) (L : List Loc) : Prop := ∃ r : Addr, v = none ∧ Fr n0 L ∧ Keep h0 h [sc] ∧ h0.size ≤ r ∧ Fld Z h sc "com/example/vestline/vestline/service/ServiceCount" "setAsides" "Ljava/util/List;" (.ref r) ∧ Exa Z h r "java/util/ImmutableCollections$List12" ∧ Fld Z h r "java/util/ImmutableCollections$List12" "e0" "Ljava/lang/Object;" (.ref y1) ∧ Fld Z h r "java/util/ImmutableCollections$List12" "e1" "Ljava/lang/Object;" (.ref em)
set_option maxRecDepth 65536 in
set_option maxHeartbeats 40000000 in
theorem rm_scInit1 (l : Launch) (Z : State) (a0 : Array Value) (hw : ∀ d ∈ tables_1, d.before a0 Z = true) (ws : List Jvm.Cond) (sc pl : Addr) (yy : Int32) (u1 u2 u3 : Value) (oa t y1 : Addr) (kt : ClassId) (dc el ea em mr : Addr) (kd ke : ClassId) (h0 : Heap) (n0 : Nat) (Z0 : n0 ≤ h0.size) (O : Old Z n0 h0) (hT : own_ST Z dc el ea em mr kd ke) (E_s : Exa Z h0 sc "com/example/vestline/vestline/service/ServiceCount") (F_s1 : Fld Z h0 sc "com/example/vestline/vestline/service/ServiceCount" "periods" "Ljava/util/List;" u1) (F_s2 : Fld Z h0 sc "com/example/vestline/vestline/service/ServiceCount" "years" "I" u2) (F_s3 : Fld Z h0 sc "com/example/vestline/vestline/service/ServiceCount" "setAsides" "Ljava/util/List;" u3) (g_sc : n0 ≤ sc) (E_p : Exa Z h0 pl "java/util/ArrayList") (F_p : Fld Z h0 pl "java/util/ArrayList" "size" "I" (.int 0)) (E_a : Exa Z h0 oa "java/util/ArrayList") (F_z : Fld Z h0 oa "java/util/ArrayList" "size" "I" (.int 1)) (F_e : Fld Z h0 oa "java/util/ArrayList" "elementData" "[Ljava/lang/Object;" (.ref t)) (V_t : Arv Z h0 t kt (.object "java/lang/Object") (10 : Int32) [(.ref y1), .null, .null, .null, .null, .null, .null, .null, .null, .null] .null) (E_t : Exa Z h0 t "[Ljava/lang/Object;") (E_y1 : Exa Z h0 y1 "com/example/vestline/vestline/service/SetAside") :
    MetFree l (⟨"com/example/vestline/vestline/service/ServiceCount", "<init>", "(Ljava/util/List;ILjava/util/List;)V"⟩ : MethodName) (head1 (Jvm.Cond.code (⟨"com/example/vestline/vestline/service/ServiceCount", "<init>", "(Ljava/util/List;ILjava/util/List;)V"⟩ : MethodName) prog_76_method_1_code 4 none :: ws) ({ frames := 8, cells := 2, slots := 3, locals := 100 } : Room)) (fun a U => a = #[(.ref sc), (.ref pl), (.int yy), (.ref oa)] ∧ Z.Warmed39 U.vm ∧ U.heap = h0) (fun _ _ _ _ _ => True) (fun _ U o U' => ∃ v L, o = .returned v ∧ Q_scInit1 Z sc pl yy u1 u2 u3 oa t y1 kt dc el ea em mr kd ke h0 n0 v U'.heap L ∧ FrameEnd U o U' L ({ frames := 8, cells := 2, slots := 3, locals := 100 } : Room).cells ({ frames := 8, cells := 2, slots := 3, locals := 100 } : Room).slots) := by
  refine MetFree.of_bodySF (plainFor_of_name own_pn_com_example_vestline_vestline_service_ServiceCount) hisR ?_
  intro p e s m args below meth c s₁ Bd hml0 hP hK
  obtain ⟨rfl, hZ, hh⟩ := hP
  have hx := Bd.exec
  have hby := Bd.bytes
  have hml : c.maxLocals = 4 := hml0
  have hown : s.vm.findClass "com/example/vestline/vestline/service/ServiceCount" = some m.cls := findClass_of_methodNamed Bd.named
  have hnm := (name_of_methodNamed Bd.named Bd.method).1
  have X0 : Stand p l e ({ frames := 8, cells := 2, slots := 3, locals := 100 } : Room) s m #[(.ref sc), (.ref pl), (.int yy), (.ref oa)] below meth c s₁ [] 0 0 := Stand.of_body Bd
  have e0 : s₁.heap = h0 := by rw [← hh, Bd.state]; rfl
  have N0 := Fr.nil n0
  refine own_start (F0 := fun o U' => ∃ v L, o = .returned v ∧ Q_scInit1 Z sc pl yy u1 u2 u3 oa t y1 kt dc el ea em mr kd ke h0 n0 v U'.heap L ∧ FrameEnd s o U' L ({ frames := 8, cells := 2, slots := 3, locals := 100 } : Room).cells ({ frames := 8, cells := 2, slots := 3, locals := 100 } : Room).slots) fun F hF => ?_
  rw [own_ef_scInit1 m sc pl yy oa]
  have K := Keep.refl h0 [sc]
  have E_s0 := E_s.lt
  refine own_st (V := s₁.setTop (mkF m 1 #[.val (.ref sc), .val (.ref pl), .val (.int yy), .val (.ref oa)] [(.ref sc)])) (fun _ hk => XS.aloadN X0.here hx rfl (hb hby d16_0) rfl rfl hk) ?_
  obtain ⟨_, _, ⟨T1, L1, k1, n1⟩, -, X1, ⟨Lc1, hQ1, l1, y1, z1⟩, st1⟩ := X0.specialBack hx (y := (⟨"java/lang/Record", "<init>", "()V"⟩ : MethodName)) rfl hown (mvT hZ (hw _ (List.mem_of_getElem? (i := 127) rfl))) (mvT hZ (hw _ (List.mem_of_getElem? (i := 75) rfl))) (mvT hZ (hw _ (List.mem_of_getElem? (i := 78) rfl))) (by decide) (backOf (W := 0) (rm_record l Z a0 hw [] sc h0 n0 Z0) hZ (hw _ (List.mem_of_getElem? (i := 78) rfl)) (hw _ (List.mem_of_getElem? (i := 77) rfl)) (by decide) (by decide)) (g := (mkF m 1 #[.val (.ref sc), .val (.ref pl), .val (.int yy), .val (.ref oa)] [(.ref sc)])) rfl (by rw [hml]; rfl) (Steps.refl _) (a := sc) (argsL := []) (rest := []) (lenOf own_pd6 rfl) rfl (by show 2 * 0 + _ ≤ _; exact Nat.le_of_eq rfl) (hb hby d16_1) (fun _ _ => ⟨rfl, e0, (by decide : 0 + 0 ≤ _), (by decide : 0 + 0 ≤ _)⟩)
  dsimp only [Pt.U, Pt.locs, Pt.cells, Pt.slots] at X1 l1 y1 z1 st1 hQ1
  subst l1 y1 z1
  obtain ⟨rfl, N1q, es1⟩ := hQ1
  have N1 := Fr.app N0 N1q
  refine own_tr (V := T1.setTop (mkF m 4 #[.val (.ref sc), .val (.ref pl), .val (.int yy), .val (.ref oa)] [])) st1 ?_
  refine own_st (V := T1.setTop (mkF m 5 #[.val (.ref sc), .val (.ref pl), .val (.int yy), .val (.ref oa)] [(.ref pl)])) (fun _ hk => XS.aloadN X1.here hx rfl (hb hby d16_4) rfl rfl hk) ?_
  obtain ⟨_, _, ⟨T2, L2, k2, n2⟩, -, X2, ⟨Lc2, hQ2, l2, y2, z2⟩, st2⟩ := Jvm.LawKit.callS X1 hx (y := (⟨"java/util/List", "copyOf", "(Ljava/util/Collection;)Ljava/util/List;"⟩ : MethodName)) hown (mvT hZ (hw _ (List.mem_of_getElem? (i := 128) rfl))) (mvT hZ (hw _ (List.mem_of_getElem? (i := 129) rfl))) (mvT hZ (hw _ (List.mem_of_getElem? (i := 130) rfl))) (mvT hZ (hw _ (List.mem_of_getElem? (i := 131) rfl))) (by decide) (backOf (W := 0) (rm_cp0 l Z a0 hw [] pl dc el ea em mr kd ke h0 n0 Z0 O hT E_p F_p) hZ (hw _ (List.mem_of_getElem? (i := 131) rfl)) (hw _ (List.mem_of_getElem? (i := 130) rfl)) (by decide) (by decide)) (g := (mkF m 5 #[.val (.ref sc), .val (.ref pl), .val (.int yy), .val (.ref oa)] [(.ref pl)])) rfl (by rw [hml]; rfl) (argsL := [(.ref pl)]) (rest := []) (lenOf own_pd19 rfl) rfl (by show 2 * 0 + _ ≤ _; exact Nat.le_of_eq rfl) (hb hby d16_5) (fun _ _ => ⟨rfl, es1, (by decide : 0 + 0 ≤ _), (by decide : 0 + 0 ≤ _)⟩)
  dsimp only [Pt.U, Pt.locs, Pt.cells, Pt.slots] at X2 l2 y2 z2 st2 hQ2
  subst l2 y2 z2
  obtain ⟨rfl, N2q, es2⟩ := hQ2
  have N2 := Fr.app N1 N2q
  refine own_st (V := T2.setTop (mkF m 8 #[.val (.ref sc), .val (.ref pl), .val (.int yy), .val (.ref oa)] [(.ref el)])) st2 ?_
  refine own_st (V := T2.setTop (mkF m 9 #[.val (.ref sc), .val (.ref el), .val (.int yy), .val (.ref oa)] [])) (fun _ hk => XS.astoreN X2.here hx rfl (hb hby d16_8) rfl rfl (l' := #[.val (.ref sc), .val (.ref el), .val (.int yy), .val (.ref oa)]) rfl hk) ?_
  refine own_st (V := T2.setTop (mkF m 10 #[.val (.ref sc), .val (.ref el), .val (.int yy), .val (.ref oa)] [(.ref oa)])) (fun _ hk => XS.aloadN X2.here hx rfl (hb hby d16_9) rfl rfl hk) ?_
  obtain ⟨_, _, ⟨T3, L3, k3, n3⟩, -, X3, ⟨Lc3, hQ3, l3, y3, z3⟩, st3⟩ := Jvm.LawKit.callS X2 hx (y := (⟨"java/util/List", "copyOf", "(Ljava/util/Collection;)Ljava/util/List;"⟩ : MethodName)) hown (mvT hZ (hw _ (List.mem_of_getElem? (i := 128) rfl))) (mvT hZ (hw _ (List.mem_of_getElem? (i := 129) rfl))) (mvT hZ (hw _ (List.mem_of_getElem? (i := 130) rfl))) (mvT hZ (hw _ (List.mem_of_getElem? (i := 131) rfl))) (by decide) (backOf (W := 0) (rm_cp1 l Z a0 hw [] oa t y1 kt dc el ea em mr kd ke h0 n0 Z0 O hT E_a F_z F_e V_t E_t E_y1) hZ (hw _ (List.mem_of_getElem? (i := 131) rfl)) (hw _ (List.mem_of_getElem? (i := 130) rfl)) (by decide) (by decide)) (g := (mkF m 10 #[.val (.ref sc), .val (.ref el), .val (.int yy), .val (.ref oa)] [(.ref oa)])) rfl (by rw [hml]; rfl) (argsL := [(.ref oa)]) (rest := []) (lenOf own_pd19 rfl) rfl (by show 2 * 0 + _ ≤ _; exact Nat.le_of_eq rfl) (hb hby d16_10) (fun _ _ => ⟨rfl, es2, (by decide : 0 + 2 ≤ _), (by decide : 0 + 3 ≤ _)⟩)
  dsimp only [Pt.U, Pt.locs, Pt.cells, Pt.slots] at X3 l3 y3 z3 st3 hQ3
  subst l3 y3 z3
  obtain ⟨r, rfl, N3q, Kc, szr, E_r, G_0, G_1⟩ := hQ3
  have N3 := Fr.app N2 N3q
  refine own_st (V := T3.setTop (mkF m 13 #[.val (.ref sc), .val (.ref el), .val (.int yy), .val (.ref oa)] [(.ref r)])) st3 ?_
  have E_s := E_s.keep Kc
  have F_s1 := F_s1.keep Kc nin0
  have F_s2 := F_s2.keep Kc nin0
  have F_s3 := F_s3.keep Kc nin0
  have Z0 : n0 ≤ T3.heap.size := Nat.le_trans Z0 Kc.1
  have O := O.keep Kc all0
  have K := K.trans Kc all0
  have ne_sc_r : sc ≠ r := Nat.ne_of_lt (Nat.lt_of_lt_of_le E_s0 szr)
  have ne_r_sc := Ne.symm ne_sc_r
  refine own_st (V := T3.setTop (mkF m 14 #[.val (.ref sc), .val (.ref el), .val (.int yy), .val (.ref r)] [])) (fun _ hk => XS.astoreN X3.here hx rfl (hb hby d16_13) rfl rfl (l' := #[.val (.ref sc), .val (.ref el), .val (.int yy), .val (.ref r)]) rfl hk) ?_
  refine own_st (V := T3.setTop (mkF m 15 #[.val (.ref sc), .val (.ref el), .val (.int yy), .val (.ref r)] [(.ref sc)])) (fun _ hk => XS.aloadN X3.here hx rfl (hb hby d16_14) rfl rfl hk) ?_
  refine own_st (V := T3.setTop (mkF m 16 #[.val (.ref sc), .val (.ref el), .val (.int yy), .val (.ref r)] [(.ref el), (.ref sc)])) (fun _ hk => XS.aloadN X3.here hx rfl (hb hby d16_15) rfl rfl hk) ?_
  obtain ⟨T4, h4, X4, e4, W4, st4⟩ := putF X3 hx hZ hown (host := "") (Or.inl (hw _ (List.mem_of_getElem? (i := 157) rfl))) Via.refl rfl F_s1 E_s (Or.inr ⟨(hw _ (List.mem_of_getElem? (i := 158) rfl)), rfl, hnm⟩) (hw _ (List.mem_of_getElem? (i := 122) rfl)) (ty := (.object "java/util/List")) (by decide) rfl rfl (g := (mkF m 16 #[.val (.ref sc), .val (.ref el), .val (.int yy), .val (.ref r)] [(.ref el), (.ref sc)])) rfl rfl (hb hby d16_16)
  have E_s := E_s.wr W4
  have F_s2 := F_s2.other W4 (Or.inr (slot_ne (Or.inr (hw _ (List.mem_of_getElem? (i := 160) rfl))) (Or.inr (hw _ (List.mem_of_getElem? (i := 158) rfl))) (by decide) (t := .int) (t' := (.object "java/util/List")) (by decide) (by decide)))
  have F_s3 := F_s3.other W4 (Or.inr (slot_ne (Or.inr (hw _ (List.mem_of_getElem? (i := 162) rfl))) (Or.inr (hw _ (List.mem_of_getElem? (i := 158) rfl))) (by decide) (t := (.object "java/util/List")) (t' := (.object "java/util/List")) (by decide) (by decide)))
  have E_r := E_r.wr W4
  have G_0 := G_0.other W4 (Or.inl ne_r_sc)
  have G_1 := G_1.other W4 (Or.inl ne_r_sc)
  have F_s1 := F_s1.same W4
  have K := K.wr W4 (Or.inl (List.mem_of_getElem? (i := 0) rfl))
  have N4 := Fr.snoc X4 N3 g_sc
  have O := O.wr W4 g_sc
  have Z0 : n0 ≤ h4.size := Nat.le_trans Z0 (Keep.of_wr W4).1
  refine own_st (V := T4.setTop (mkF m 19 #[.val (.ref sc), .val (.ref el), .val (.int yy), .val (.ref r)] [])) st4 ?_
  refine own_st (V := T4.setTop (mkF m 20 #[.val (.ref sc), .val (.ref el), .val (.int yy), .val (.ref r)] [(.ref sc)])) (fun _ hk => XS.aloadN X4.here hx rfl (hb hby d16_19) rfl rfl hk) ?_
  refine own_st (V := T4.setTop (mkF m 21 #[.val (.ref sc), .val (.ref el), .val (.int yy), .val (.ref r)] [(.int yy), (.ref sc)])) (fun _ hk => XS.iloadN X4.here hx rfl (hb hby d16_20) rfl  hk) ?_
  obtain ⟨T5, h5, X5, e5, W5, st5⟩ := putF X4 hx hZ hown (host := "") (Or.inl (hw _ (List.mem_of_getElem? (i := 159) rfl))) Via.refl e4 F_s2 E_s (Or.inr ⟨(hw _ (List.mem_of_getElem? (i := 160) rfl)), rfl, hnm⟩) (hw _ (List.mem_of_getElem? (i := 122) rfl)) (ty := .int) (by decide) rfl rfl (g := (mkF m 21 #[.val (.ref sc), .val (.ref el), .val (.int yy), .val (.ref r)] [(.int yy), (.ref sc)])) rfl rfl (hb hby d16_21)
  have E_s := E_s.wr W5
  have F_s1 := F_s1.other W5 (Or.inr (slot_ne (Or.inr (hw _ (List.mem_of_getElem? (i := 158) rfl))) (Or.inr (hw _ (List.mem_of_getElem? (i := 160) rfl))) (by decide) (t := (.object "java/util/List")) (t' := .int) (by decide) (by decide)))
  have F_s3 := F_s3.other W5 (Or.inr (slot_ne (Or.inr (hw _ (List.mem_of_getElem? (i := 162) rfl))) (Or.inr (hw _ (List.mem_of_getElem? (i := 160) rfl))) (by decide) (t := (.object "java/util/List")) (t' := .int) (by decide) (by decide)))
  have E_r := E_r.wr W5
  have G_0 := G_0.other W5 (Or.inl ne_r_sc)
  have G_1 := G_1.other W5 (Or.inl ne_r_sc)
  have F_s2 := F_s2.same W5
  have K := K.wr W5 (Or.inl (List.mem_of_getElem? (i := 0) rfl))
  have N5 := Fr.snoc X5 N4 g_sc
  have O := O.wr W5 g_sc
  have Z0 : n0 ≤ h5.size := Nat.le_trans Z0 (Keep.of_wr W5).1
  refine own_st (V := T5.setTop (mkF m 24 #[.val (.ref sc), .val (.ref el), .val (.int yy), .val (.ref r)] [])) st5 ?_
  refine own_st (V := T5.setTop (mkF m 25 #[.val (.ref sc), .val (.ref el), .val (.int yy), .val (.ref r)] [(.ref sc)])) (fun _ hk => XS.aloadN X5.here hx rfl (hb hby d16_24) rfl rfl hk) ?_
  refine own_st (V := T5.setTop (mkF m 26 #[.val (.ref sc), .val (.ref el), .val (.int yy), .val (.ref r)] [(.ref r), (.ref sc)])) (fun _ hk => XS.aloadN X5.here hx rfl (hb hby d16_25) rfl rfl hk) ?_
  obtain ⟨T6, h6, X6, e6, W6, st6⟩ := putF X5 hx hZ hown (host := "") (Or.inl (hw _ (List.mem_of_getElem? (i := 161) rfl))) Via.refl e5 F_s3 E_s (Or.inr ⟨(hw _ (List.mem_of_getElem? (i := 162) rfl)), rfl, hnm⟩) (hw _ (List.mem_of_getElem? (i := 122) rfl)) (ty := (.object "java/util/List")) (by decide) rfl rfl (g := (mkF m 26 #[.val (.ref sc), .val (.ref el), .val (.int yy), .val (.ref r)] [(.ref r), (.ref sc)])) rfl rfl (hb hby d16_26)
  have E_s := E_s.wr W6
  have F_s1 := F_s1.other W6 (Or.inr (slot_ne (Or.inr (hw _ (List.mem_of_getElem? (i := 158) rfl))) (Or.inr (hw _ (List.mem_of_getElem? (i := 162) rfl))) (by decide) (t := (.object "java/util/List")) (t' := (.object "java/util/List")) (by decide) (by decide)))
  have F_s2 := F_s2.other W6 (Or.inr (slot_ne (Or.inr (hw _ (List.mem_of_getElem? (i := 160) rfl))) (Or.inr (hw _ (List.mem_of_getElem? (i := 162) rfl))) (by decide) (t := .int) (t' := (.object "java/util/List")) (by decide) (by decide)))
  have E_r := E_r.wr W6
  have G_0 := G_0.other W6 (Or.inl ne_r_sc)
  have G_1 := G_1.other W6 (Or.inl ne_r_sc)
  have F_s3 := F_s3.same W6
  have K := K.wr W6 (Or.inl (List.mem_of_getElem? (i := 0) rfl))
  have N6 := Fr.snoc X6 N5 g_sc
  have O := O.wr W6 g_sc
  have Z0 : n0 ≤ h6.size := Nat.le_trans Z0 (Keep.of_wr W6).1
  refine own_st (V := T6.setTop (mkF m 29 #[.val (.ref sc), .val (.ref el), .val (.int yy), .val (.ref r)] [])) st6 ?_
  exact own_retV X6 hx Bd.notSynchronized Bd.returns (hb hby d16_29) (by decide) (by decide) (fun U hU hE => hF _ _ ⟨_, _, rfl, (by rw [hU, e6]; exact ⟨_, rfl, N6, K, szr, F_s3, E_r, G_0, G_1⟩), hE⟩)
theorem own_ef_scInit2 (m : MethodId) (x0 : Addr) (x1 : Addr) (x2 : Int32) (x3 : Addr) : entryFrame m #[(.ref x0), (.ref x1), (.int x2), (.ref x3)] 4 = mkF m 0 #[.val (.ref x0), .val (.ref x1), .val (.int x2), .val (.ref x3)] [] := by first | (simp [entryFrame, mkF, argsToLocals, Value.category]; done) | rfl
def Q_scInit2 (Z : State) (sc pl : Addr) (yy : Int32) (u1 u2 u3 : Value) (oa t y1 y2 : Addr) (kt : ClassId) (dc el ea em mr : Addr) (kd ke : ClassId) (h0 : Heap) (n0 : Nat) (v : Option Value) (h : Heap) (L : List Loc) : Prop := ∃ r : Addr, v = none ∧ Fr n0 L ∧ Keep h0 h [sc] ∧ h0.size ≤ r ∧ Fld Z h sc "com/example/vestline/vestline/service/ServiceCount" "setAsides" "Ljava/util/List;" (.ref r) ∧ Exa Z h r "java/util/ImmutableCollections$List12" ∧ Fld Z h r "java/util/ImmutableCollections$List12" "e0" "Ljava/lang/Object;" (.ref y1) ∧ Fld Z h r "java/util/ImmutableCollections$List12" "e1" "Ljava/lang/Object;" (.ref y2)
set_option maxRecDepth 65536 in
set_option maxHeartbeats 40000000 in
theorem rm_scInit2 (l : Launch) (Z : State) (a0 : Array Value) (hw : ∀ d ∈ tables_1, d.before a0 Z = true) (ws : List Jvm.Cond) (sc pl : Addr) (yy : Int32) (u1 u2 u3 : Value) (oa t y1 y2 : Addr) (kt : ClassId) (dc el ea em mr : Addr) (kd ke : ClassId) (h0 : Heap) (n0 : Nat) (Z0 : n0 ≤ h0.size) (O : Old Z n0 h0) (hT : own_ST Z dc el ea em mr kd ke) (E_s : Exa Z h0 sc "com/example/vestline/vestline/service/ServiceCount") (F_s1 : Fld Z h0 sc "com/example/vestline/vestline/service/ServiceCount" "periods" "Ljava/util/List;" u1) (F_s2 : Fld Z h0 sc "com/example/vestline/vestline/service/ServiceCount" "years" "I" u2) (F_s3 : Fld Z h0 sc "com/example/vestline/vestline/service/ServiceCount" "setAsides" "Ljava/util/List;" u3) (g_sc : n0 ≤ sc) (E_p : Exa Z h0 pl "java/util/ArrayList") (F_p : Fld Z h0 pl "java/util/ArrayList" "size" "I" (.int 0)) (E_a : Exa Z h0 oa "java/util/ArrayList") (F_z : Fld Z h0 oa "java/util/ArrayList" "size" "I" (.int 2)) (F_e : Fld Z h0 oa "java/util/ArrayList" "elementData" "[Ljava/lang/Object;" (.ref t)) (V_t : Arv Z h0 t kt (.object "java/lang/Object") (10 : Int32) [(.ref y1), (.ref y2), .null, .null, .null, .null, .null, .null, .null, .null] .null) (E_t : Exa Z h0 t "[Ljava/lang/Object;") (E_y1 : Exa Z h0 y1 "com/example/vestline/vestline/service/SetAside") (E_y2 : Exa Z h0 y2 "com/example/vestline/vestline/service/SetAside") :
    MetFree l (⟨"com/example/vestline/vestline/service/ServiceCount", "<init>", "(Ljava/util/List;ILjava/util/List;)V"⟩ : MethodName) (head1 (Jvm.Cond.code (⟨"com/example/vestline/vestline/service/ServiceCount", "<init>", "(Ljava/util/List;ILjava/util/List;)V"⟩ : MethodName) prog_76_method_1_code 4 none :: ws) ({ frames := 8, cells := 2, slots := 4, locals := 101 } : Room)) (fun a U => a = #[(.ref sc), (.ref pl), (.int yy), (.ref oa)] ∧ Z.Warmed39 U.vm ∧ U.heap = h0) (fun _ _ _ _ _ => True) (fun _ U o U' => ∃ v L, o = .returned v ∧ Q_scInit2 Z sc pl yy u1 u2 u3 oa t y1 y2 kt dc el ea em mr kd ke h0 n0 v U'.heap L ∧ FrameEnd U o U' L ({ frames := 8, cells := 2, slots := 4, locals := 101 } : Room).cells ({ frames := 8, cells := 2, slots := 4, locals := 101 } : Room).slots) := by
  refine MetFree.of_bodySF (plainFor_of_name own_pn_com_example_vestline_vestline_service_ServiceCount) hisR ?_
  intro p e s m args below meth c s₁ Bd hml0 hP hK
  obtain ⟨rfl, hZ, hh⟩ := hP
  have hx := Bd.exec
  have hby := Bd.bytes
  have hml : c.maxLocals = 4 := hml0
  have hown : s.vm.findClass "com/example/vestline/vestline/service/ServiceCount" = some m.cls := findClass_of_methodNamed Bd.named
  have hnm := (name_of_methodNamed Bd.named Bd.method).1
  have X0 : Stand p l e ({ frames := 8, cells := 2, slots := 4, locals := 101 } : Room) s m #[(.ref sc), (.ref pl), (.int yy), (.ref oa)] below meth c s₁ [] 0 0 := Stand.of_body Bd
  have e0 : s₁.heap = h0 := by rw [← hh, Bd.state]; rfl
  have N0 := Fr.nil n0
  refine own_start (F0 := fun o U' => ∃ v L, o = .returned v ∧ Q_scInit2 Z sc pl yy u1 u2 u3 oa t y1 y2 kt dc el ea em mr kd ke h0 n0 v U'.heap L ∧ FrameEnd s o U' L ({ frames := 8, cells := 2, slots := 4, locals := 101 } : Room).cells ({ frames := 8, cells := 2, slots := 4, locals := 101 } : Room).slots) fun F hF => ?_
  rw [own_ef_scInit2 m sc pl yy oa]
  have K := Keep.refl h0 [sc]
  have E_s0 := E_s.lt
  refine own_st (V := s₁.setTop (mkF m 1 #[.val (.ref sc), .val (.ref pl), .val (.int yy), .val (.ref oa)] [(.ref sc)])) (fun _ hk => XS.aloadN X0.here hx rfl (hb hby d16_0) rfl rfl hk) ?_
  obtain ⟨_, _, ⟨T1, L1, k1, n1⟩, -, X1, ⟨Lc1, hQ1, l1, y1, z1⟩, st1⟩ := X0.specialBack hx (y := (⟨"java/lang/Record", "<init>", "()V"⟩ : MethodName)) rfl hown (mvT hZ (hw _ (List.mem_of_getElem? (i := 127) rfl))) (mvT hZ (hw _ (List.mem_of_getElem? (i := 75) rfl))) (mvT hZ (hw _ (List.mem_of_getElem? (i := 78) rfl))) (by decide) (backOf (W := 0) (rm_record l Z a0 hw [] sc h0 n0 Z0) hZ (hw _ (List.mem_of_getElem? (i := 78) rfl)) (hw _ (List.mem_of_getElem? (i := 77) rfl)) (by decide) (by decide)) (g := (mkF m 1 #[.val (.ref sc), .val (.ref pl), .val (.int yy), .val (.ref oa)] [(.ref sc)])) rfl (by rw [hml]; rfl) (Steps.refl _) (a := sc) (argsL := []) (rest := []) (lenOf own_pd6 rfl) rfl (by show 2 * 0 + _ ≤ _; exact Nat.le_of_eq rfl) (hb hby d16_1) (fun _ _ => ⟨rfl, e0, (by decide : 0 + 0 ≤ _), (by decide : 0 + 0 ≤ _)⟩)
  dsimp only [Pt.U, Pt.locs, Pt.cells, Pt.slots] at X1 l1 y1 z1 st1 hQ1
  subst l1 y1 z1
  obtain ⟨rfl, N1q, es1⟩ := hQ1
  have N1 := Fr.app N0 N1q
  refine own_tr (V := T1.setTop (mkF m 4 #[.val (.ref sc), .val (.ref pl), .val (.int yy), .val (.ref oa)] [])) st1 ?_
  refine own_st (V := T1.setTop (mkF m 5 #[.val (.ref sc), .val (.ref pl), .val (.int yy), .val (.ref oa)] [(.ref pl)])) (fun _ hk => XS.aloadN X1.here hx rfl (hb hby d16_4) rfl rfl hk) ?_
  obtain ⟨_, _, ⟨T2, L2, k2, n2⟩, -, X2, ⟨Lc2, hQ2, l2, y2, z2⟩, st2⟩ := Jvm.LawKit.callS X1 hx (y := (⟨"java/util/List", "copyOf", "(Ljava/util/Collection;)Ljava/util/List;"⟩ : MethodName)) hown (mvT hZ (hw _ (List.mem_of_getElem? (i := 128) rfl))) (mvT hZ (hw _ (List.mem_of_getElem? (i := 129) rfl))) (mvT hZ (hw _ (List.mem_of_getElem? (i := 130) rfl))) (mvT hZ (hw _ (List.mem_of_getElem? (i := 131) rfl))) (by decide) (backOf (W := 0) (rm_cp0 l Z a0 hw [] pl dc el ea em mr kd ke h0 n0 Z0 O hT E_p F_p) hZ (hw _ (List.mem_of_getElem? (i := 131) rfl)) (hw _ (List.mem_of_getElem? (i := 130) rfl)) (by decide) (by decide)) (g := (mkF m 5 #[.val (.ref sc), .val (.ref pl), .val (.int yy), .val (.ref oa)] [(.ref pl)])) rfl (by rw [hml]; rfl) (argsL := [(.ref pl)]) (rest := []) (lenOf own_pd19 rfl) rfl (by show 2 * 0 + _ ≤ _; exact Nat.le_of_eq rfl) (hb hby d16_5) (fun _ _ => ⟨rfl, es1, (by decide : 0 + 0 ≤ _), (by decide : 0 + 0 ≤ _)⟩)
  dsimp only [Pt.U, Pt.locs, Pt.cells, Pt.slots] at X2 l2 y2 z2 st2 hQ2
  subst l2 y2 z2
  obtain ⟨rfl, N2q, es2⟩ := hQ2
  have N2 := Fr.app N1 N2q
  refine own_st (V := T2.setTop (mkF m 8 #[.val (.ref sc), .val (.ref pl), .val (.int yy), .val (.ref oa)] [(.ref el)])) st2 ?_
  refine own_st (V := T2.setTop (mkF m 9 #[.val (.ref sc), .val (.ref el), .val (.int yy), .val (.ref oa)] [])) (fun _ hk => XS.astoreN X2.here hx rfl (hb hby d16_8) rfl rfl (l' := #[.val (.ref sc), .val (.ref el), .val (.int yy), .val (.ref oa)]) rfl hk) ?_
  refine own_st (V := T2.setTop (mkF m 10 #[.val (.ref sc), .val (.ref el), .val (.int yy), .val (.ref oa)] [(.ref oa)])) (fun _ hk => XS.aloadN X2.here hx rfl (hb hby d16_9) rfl rfl hk) ?_
  obtain ⟨_, _, ⟨T3, L3, k3, n3⟩, -, X3, ⟨Lc3, hQ3, l3, y3, z3⟩, st3⟩ := Jvm.LawKit.callS X2 hx (y := (⟨"java/util/List", "copyOf", "(Ljava/util/Collection;)Ljava/util/List;"⟩ : MethodName)) hown (mvT hZ (hw _ (List.mem_of_getElem? (i := 128) rfl))) (mvT hZ (hw _ (List.mem_of_getElem? (i := 129) rfl))) (mvT hZ (hw _ (List.mem_of_getElem? (i := 130) rfl))) (mvT hZ (hw _ (List.mem_of_getElem? (i := 131) rfl))) (by decide) (backOf (W := 0) (rm_cp2 l Z a0 hw [] oa t y1 y2 kt dc el ea em mr kd ke h0 n0 Z0 O hT E_a F_z F_e V_t E_t E_y1 E_y2) hZ (hw _ (List.mem_of_getElem? (i := 131) rfl)) (hw _ (List.mem_of_getElem? (i := 130) rfl)) (by decide) (by decide)) (g := (mkF m 10 #[.val (.ref sc), .val (.ref el), .val (.int yy), .val (.ref oa)] [(.ref oa)])) rfl (by rw [hml]; rfl) (argsL := [(.ref oa)]) (rest := []) (lenOf own_pd19 rfl) rfl (by show 2 * 0 + _ ≤ _; exact Nat.le_of_eq rfl) (hb hby d16_10) (fun _ _ => ⟨rfl, es2, (by decide : 0 + 2 ≤ _), (by decide : 0 + 4 ≤ _)⟩)
  dsimp only [Pt.U, Pt.locs, Pt.cells, Pt.slots] at X3 l3 y3 z3 st3 hQ3
  subst l3 y3 z3
  obtain ⟨r, rfl, N3q, Kc, szr, E_r, G_0, G_1⟩ := hQ3
  have N3 := Fr.app N2 N3q
  refine own_st (V := T3.setTop (mkF m 13 #[.val (.ref sc), .val (.ref el), .val (.int yy), .val (.ref oa)] [(.ref r)])) st3 ?_
  have E_s := E_s.keep Kc
  have F_s1 := F_s1.keep Kc nin0
  have F_s2 := F_s2.keep Kc nin0
  have F_s3 := F_s3.keep Kc nin0
  have Z0 : n0 ≤ T3.heap.size := Nat.le_trans Z0 Kc.1
  have O := O.keep Kc all0
  have K := K.trans Kc all0
  have ne_sc_r : sc ≠ r := Nat.ne_of_lt (Nat.lt_of_lt_of_le E_s0 szr)
  have ne_r_sc := Ne.symm ne_sc_r
  refine own_st (V := T3.setTop (mkF m 14 #[.val (.ref sc), .val (.ref el), .val (.int yy), .val (.ref r)] [])) (fun _ hk => XS.astoreN X3.here hx rfl (hb hby d16_13) rfl rfl (l' := #[.val (.ref sc), .val (.ref el), .val (.int yy), .val (.ref r)]) rfl hk) ?_
  refine own_st (V := T3.setTop (mkF m 15 #[.val (.ref sc), .val (.ref el), .val (.int yy), .val (.ref r)] [(.ref sc)])) (fun _ hk => XS.aloadN X3.here hx rfl (hb hby d16_14) rfl rfl hk) ?_
  refine own_st (V := T3.setTop (mkF m 16 #[.val (.ref sc), .val (.ref el), .val (.int yy), .val (.ref r)] [(.ref el), (.ref sc)])) (fun _ hk => XS.aloadN X3.here hx rfl (hb hby d16_15) rfl rfl hk) ?_
  obtain ⟨T4, h4, X4, e4, W4, st4⟩ := putF X3 hx hZ hown (host := "") (Or.inl (hw _ (List.mem_of_getElem? (i := 157) rfl))) Via.refl rfl F_s1 E_s (Or.inr ⟨(hw _ (List.mem_of_getElem? (i := 158) rfl)), rfl, hnm⟩) (hw _ (List.mem_of_getElem? (i := 122) rfl)) (ty := (.object "java/util/List")) (by decide) rfl rfl (g := (mkF m 16 #[.val (.ref sc), .val (.ref el), .val (.int yy), .val (.ref r)] [(.ref el), (.ref sc)])) rfl rfl (hb hby d16_16)
  have E_s := E_s.wr W4
  have F_s2 := F_s2.other W4 (Or.inr (slot_ne (Or.inr (hw _ (List.mem_of_getElem? (i := 160) rfl))) (Or.inr (hw _ (List.mem_of_getElem? (i := 158) rfl))) (by decide) (t := .int) (t' := (.object "java/util/List")) (by decide) (by decide)))
  have F_s3 := F_s3.other W4 (Or.inr (slot_ne (Or.inr (hw _ (List.mem_of_getElem? (i := 162) rfl))) (Or.inr (hw _ (List.mem_of_getElem? (i := 158) rfl))) (by decide) (t := (.object "java/util/List")) (t' := (.object "java/util/List")) (by decide) (by decide)))
  have E_r := E_r.wr W4
  have G_0 := G_0.other W4 (Or.inl ne_r_sc)
  have G_1 := G_1.other W4 (Or.inl ne_r_sc)
  have F_s1 := F_s1.same W4
  have K := K.wr W4 (Or.inl (List.mem_of_getElem? (i := 0) rfl))
  have N4 := Fr.snoc X4 N3 g_sc
  have O := O.wr W4 g_sc
  have Z0 : n0 ≤ h4.size := Nat.le_trans Z0 (Keep.of_wr W4).1
  refine own_st (V := T4.setTop (mkF m 19 #[.val (.ref sc), .val (.ref el), .val (.int yy), .val (.ref r)] [])) st4 ?_
  refine own_st (V := T4.setTop (mkF m 20 #[.val (.ref sc), .val (.ref el), .val (.int yy), .val (.ref r)] [(.ref sc)])) (fun _ hk => XS.aloadN X4.here hx rfl (hb hby d16_19) rfl rfl hk) ?_
  refine own_st (V := T4.setTop (mkF m 21 #[.val (.ref sc), .val (.ref el), .val (.int yy), .val (.ref r)] [(.int yy), (.ref sc)])) (fun _ hk => XS.iloadN X4.here hx rfl (hb hby d16_20) rfl  hk) ?_
  obtain ⟨T5, h5, X5, e5, W5, st5⟩ := putF X4 hx hZ hown (host := "") (Or.inl (hw _ (List.mem_of_getElem? (i := 159) rfl))) Via.refl e4 F_s2 E_s (Or.inr ⟨(hw _ (List.mem_of_getElem? (i := 160) rfl)), rfl, hnm⟩) (hw _ (List.mem_of_getElem? (i := 122) rfl)) (ty := .int) (by decide) rfl rfl (g := (mkF m 21 #[.val (.ref sc), .val (.ref el), .val (.int yy), .val (.ref r)] [(.int yy), (.ref sc)])) rfl rfl (hb hby d16_21)
  have E_s := E_s.wr W5
  have F_s1 := F_s1.other W5 (Or.inr (slot_ne (Or.inr (hw _ (List.mem_of_getElem? (i := 158) rfl))) (Or.inr (hw _ (List.mem_of_getElem? (i := 160) rfl))) (by decide) (t := (.object "java/util/List")) (t' := .int) (by decide) (by decide)))
  have F_s3 := F_s3.other W5 (Or.inr (slot_ne (Or.inr (hw _ (List.mem_of_getElem? (i := 162) rfl))) (Or.inr (hw _ (List.mem_of_getElem? (i := 160) rfl))) (by decide) (t := (.object "java/util/List")) (t' := .int) (by decide) (by decide)))
  have E_r := E_r.wr W5
  have G_0 := G_0.other W5 (Or.inl ne_r_sc)
  have G_1 := G_1.other W5 (Or.inl ne_r_sc)
  have F_s2 := F_s2.same W5
  have K := K.wr W5 (Or.inl (List.mem_of_getElem? (i := 0) rfl))
  have N5 := Fr.snoc X5 N4 g_sc
  have O := O.wr W5 g_sc
  have Z0 : n0 ≤ h5.size := Nat.le_trans Z0 (Keep.of_wr W5).1
  refine own_st (V := T5.setTop (mkF m 24 #[.val (.ref sc), .val (.ref el), .val (.int yy), .val (.ref r)] [])) st5 ?_
  refine own_st (V := T5.setTop (mkF m 25 #[.val (.ref sc), .val (.ref el), .val (.int yy), .val (.ref r)] [(.ref sc)])) (fun _ hk => XS.aloadN X5.here hx rfl (hb hby d16_24) rfl rfl hk) ?_
  refine own_st (V := T5.setTop (mkF m 26 #[.val (.ref sc), .val (.ref el), .val (.int yy), .val (.ref r)] [(.ref r), (.ref sc)])) (fun _ hk => XS.aloadN X5.here hx rfl (hb hby d16_25) rfl rfl hk) ?_
  obtain ⟨T6, h6, X6, e6, W6, st6⟩ := putF X5 hx hZ hown (host := "") (Or.inl (hw _ (List.mem_of_getElem? (i := 161) rfl))) Via.refl e5 F_s3 E_s (Or.inr ⟨(hw _ (List.mem_of_getElem? (i := 162) rfl)), rfl, hnm⟩) (hw _ (List.mem_of_getElem? (i := 122) rfl)) (ty := (.object "java/util/List")) (by decide) rfl rfl (g := (mkF m 26 #[.val (.ref sc), .val (.ref el), .val (.int yy), .val (.ref r)] [(.ref r), (.ref sc)])) rfl rfl (hb hby d16_26)
  have E_s := E_s.wr W6
  have F_s1 := F_s1.other W6 (Or.inr (slot_ne (Or.inr (hw _ (List.mem_of_getElem? (i := 158) rfl))) (Or.inr (hw _ (List.mem_of_getElem? (i := 162) rfl))) (by decide) (t := (.object "java/util/List")) (t' := (.object "java/util/List")) (by decide) (by decide)))
  have F_s2 := F_s2.other W6 (Or.inr (slot_ne (Or.inr (hw _ (List.mem_of_getElem? (i := 160) rfl))) (Or.inr (hw _ (List.mem_of_getElem? (i := 162) rfl))) (by decide) (t := .int) (t' := (.object "java/util/List")) (by decide) (by decide)))
  have E_r := E_r.wr W6
  have G_0 := G_0.other W6 (Or.inl ne_r_sc)
  have G_1 := G_1.other W6 (Or.inl ne_r_sc)
  have F_s3 := F_s3.same W6
  have K := K.wr W6 (Or.inl (List.mem_of_getElem? (i := 0) rfl))
  have N6 := Fr.snoc X6 N5 g_sc
  have O := O.wr W6 g_sc
  have Z0 : n0 ≤ h6.size := Nat.le_trans Z0 (Keep.of_wr W6).1
  refine own_st (V := T6.setTop (mkF m 29 #[.val (.ref sc), .val (.ref el), .val (.int yy), .val (.ref r)] [])) st6 ?_
  exact own_retV X6 hx Bd.notSynchronized Bd.returns (hb hby d16_29) (by decide) (by decide) (fun U hU hE => hF _ _ ⟨_, _, rfl, (by rw [hU, e6]; exact ⟨_, rfl, N6, K, szr, F_s3, E_r, G_0, G_1⟩), hE⟩)
theorem d22_0 : decode jdk_45_method_2_code 0 = .ok (.aload_n 0, 1) := by decide +kernel
theorem d22_1 : decode jdk_45_method_2_code 1 = .ok (.getfield 7, 3) := by decide +kernel
theorem d22_4 : decode jdk_45_method_2_code 4 = .ok (.arraylength, 1) := by decide +kernel
theorem d22_5 : decode jdk_45_method_2_code 5 = .ok (.ifCond .ne 7, 3) := by decide +kernel
theorem d22_8 : decode jdk_45_method_2_code 8 = .ok (.iconst 1, 1) := by decide +kernel
theorem d22_9 : decode jdk_45_method_2_code 9 = .ok (.goto 4, 3) := by decide +kernel
theorem d22_13 : decode jdk_45_method_2_code 13 = .ok (.ireturn, 1) := by decide +kernel
theorem own_pn_java_util_ImmutableCollections_ListN : plainName "java/util/ImmutableCollections$ListN" = true := by first | (simp [plainName, overriddenIn]; done) | decide +kernel
theorem own_ef_lnEmp (m : MethodId) (x0 : Addr) : entryFrame m #[(.ref x0)] 1 = mkF m 0 #[.val (.ref x0)] [] := by first | (simp [entryFrame, mkF, argsToLocals, Value.category]; done) | rfl
def Q_lnEmp (Z : State) (dc el ea em mr : Addr) (kd ke : ClassId) (h0 : Heap) (n0 : Nat) (v : Option Value) (h : Heap) (L : List Loc) : Prop := v = some (.int 1) ∧ Fr n0 L ∧ h = h0
set_option maxRecDepth 65536 in
set_option maxHeartbeats 40000000 in
theorem rm_lnEmp (l : Launch) (Z : State) (a0 : Array Value) (hw : ∀ d ∈ tables_1, d.before a0 Z = true) (ws : List Jvm.Cond) (dc el ea em mr : Addr) (kd ke : ClassId) (h0 : Heap) (n0 : Nat) (Z0 : n0 ≤ h0.size) (O : Old Z n0 h0) (hT : own_ST Z dc el ea em mr kd ke) :
    MetFree l (⟨"java/util/ImmutableCollections$ListN", "isEmpty", "()Z"⟩ : MethodName) (head1 (Jvm.Cond.code (⟨"java/util/ImmutableCollections$ListN", "isEmpty", "()Z"⟩ : MethodName) jdk_45_method_2_code 1 (some .boolean) :: ws) ({ frames := 0, cells := 0, slots := 0, locals := 0 } : Room)) (fun a U => a = #[(.ref el)] ∧ Z.Warmed39 U.vm ∧ U.heap = h0) (fun _ _ _ _ _ => True) (fun _ U o U' => ∃ v L, o = .returned v ∧ Q_lnEmp Z dc el ea em mr kd ke h0 n0 v U'.heap L ∧ FrameEnd U o U' L ({ frames := 0, cells := 0, slots := 0, locals := 0 } : Room).cells ({ frames := 0, cells := 0, slots := 0, locals := 0 } : Room).slots) := by
  refine MetFree.of_bodySF (plainFor_of_name own_pn_java_util_ImmutableCollections_ListN) hisR ?_
  intro p e s m args below meth c s₁ Bd hml0 hP hK
  obtain ⟨rfl, hZ, hh⟩ := hP
  have hx := Bd.exec
  have hby := Bd.bytes
  have hml : c.maxLocals = 1 := hml0
  have hown : s.vm.findClass "java/util/ImmutableCollections$ListN" = some m.cls := findClass_of_methodNamed Bd.named
  have hnm := (name_of_methodNamed Bd.named Bd.method).1
  have X0 : Stand p l e ({ frames := 0, cells := 0, slots := 0, locals := 0 } : Room) s m #[(.ref el)] below meth c s₁ [] 0 0 := Stand.of_body Bd
  have e0 : s₁.heap = h0 := by rw [← hh, Bd.state]; rfl
  have N0 := Fr.nil n0
  refine own_start (F0 := fun o U' => ∃ v L, o = .returned v ∧ Q_lnEmp Z dc el ea em mr kd ke h0 n0 v U'.heap L ∧ FrameEnd s o U' L ({ frames := 0, cells := 0, slots := 0, locals := 0 } : Room).cells ({ frames := 0, cells := 0, slots := 0, locals := 0 } : Room).slots) fun F hF => ?_
  rw [own_ef_lnEmp m el]
  obtain ⟨Sdc, Vdc, Sel, Eel, Fel, Vea, Sem, Eem, hM⟩ := hT
  have F_el := Fel.ext O.2
  have V_ea := Vea.ext O.2
  refine own_st (V := s₁.setTop (mkF m 1 #[.val (.ref el)] [(.ref el)])) (fun _ hk => XS.aloadN X0.here hx rfl (hb hby d22_0) rfl rfl hk) ?_
  obtain ⟨T1, X1, e1, st1⟩ := getF X0 hx hZ hown (host := "") (Or.inl (hw _ (List.mem_of_getElem? (i := 178) rfl))) Via.refl e0 F_el (g := (mkF m 1 #[.val (.ref el)] [(.ref el)])) rfl rfl (hb hby d22_1)
  refine own_st (V := T1.setTop (mkF m 4 #[.val (.ref el)] [(.ref ea)])) st1 ?_
  obtain ⟨cl2, Ar2, -, Sz2, Ng2, -, -⟩ := (id V_ea : _)
  refine own_st (V := T1.setTop (mkF m 5 #[.val (.ref el)] [(.int cl2.slots.size.toInt32)])) (X1.arraylength hx (by rw [e1]; exact Ar2.1) (State.isArrayOf_alike hZ.alike Ar2.2.1) (g := (mkF m 4 #[.val (.ref el)] [(.ref ea)])) rfl rfl (hb hby d22_4)) ?_
  rw [len_of Sz2 Ng2]
  refine own_st (V := T1.setTop (mkF m 8 #[.val (.ref el)] [])) (fun _ hk => XS.ifNo X1.here hx rfl (hb hby d22_5) rfl ((if0 _ _).trans (teq (show (0 : Int32) = (0 : Int32) from rfl)).2) hk) ?_
  refine own_st (V := T1.setTop (mkF m 9 #[.val (.ref el)] [(.int (1 : Int32))])) (fun _ hk => XS.iconst X1.here hx rfl (hb hby d22_8) hk) ?_
  refine own_st (V := T1.setTop (mkF m 13 #[.val (.ref el)] [(.int (1 : Int32))])) (fun _ hk => XS.goto X1.here hx rfl (pc0 := 9) (pc' := 13) rfl (hb hby d22_9) (by decide) (by decide) hk) ?_
  exact own_retN X1 hx Bd.notSynchronized Bd.returns rfl (by simp) (hb hby d22_13) (by decide) (by decide) (fun U hU hE => hF _ _ ⟨_, _, rfl, (by rw [hU, e1]; exact ⟨rfl, N0, rfl⟩), hE⟩)
theorem d37_0 : decode jdk_44_method_4_code 0 = .ok (.iconst 0, 1) := by decide +kernel
theorem d37_1 : decode jdk_44_method_4_code 1 = .ok (.ireturn, 1) := by decide +kernel
theorem own_ef_l12Emp (m : MethodId) (x0 : Addr) : entryFrame m #[(.ref x0)] 1 = mkF m 0 #[.val (.ref x0)] [] := by first | (simp [entryFrame, mkF, argsToLocals, Value.category]; done) | rfl
def Q_l12Emp (Z : State) (oa : Addr) (h0 : Heap) (n0 : Nat) (v : Option Value) (h : Heap) (L : List Loc) : Prop := v = some (.int 0) ∧ Fr n0 L ∧ h = h0
set_option maxRecDepth 65536 in
set_option maxHeartbeats 40000000 in
theorem rm_l12Emp (l : Launch) (Z : State) (a0 : Array Value) (hw : ∀ d ∈ tables_1, d.before a0 Z = true) (ws : List Jvm.Cond) (oa : Addr) (h0 : Heap) (n0 : Nat) (Z0 : n0 ≤ h0.size)  :
    MetFree l (⟨"java/util/ImmutableCollections$List12", "isEmpty", "()Z"⟩ : MethodName) (head1 (Jvm.Cond.code (⟨"java/util/ImmutableCollections$List12", "isEmpty", "()Z"⟩ : MethodName) jdk_44_method_4_code 1 (some .boolean) :: ws) ({ frames := 0, cells := 0, slots := 0, locals := 0 } : Room)) (fun a U => a = #[(.ref oa)] ∧ Z.Warmed39 U.vm ∧ U.heap = h0) (fun _ _ _ _ _ => True) (fun _ U o U' => ∃ v L, o = .returned v ∧ Q_l12Emp Z oa h0 n0 v U'.heap L ∧ FrameEnd U o U' L ({ frames := 0, cells := 0, slots := 0, locals := 0 } : Room).cells ({ frames := 0, cells := 0, slots := 0, locals := 0 } : Room).slots) := by
  refine MetFree.of_bodySF (plainFor_of_name own_pn_java_util_ImmutableCollections_List12) hisR ?_
  intro p e s m args below meth c s₁ Bd hml0 hP hK
  obtain ⟨rfl, hZ, hh⟩ := hP
  have hx := Bd.exec
  have hby := Bd.bytes
  have hml : c.maxLocals = 1 := hml0
  have hown : s.vm.findClass "java/util/ImmutableCollections$List12" = some m.cls := findClass_of_methodNamed Bd.named
  have hnm := (name_of_methodNamed Bd.named Bd.method).1
  have X0 : Stand p l e ({ frames := 0, cells := 0, slots := 0, locals := 0 } : Room) s m #[(.ref oa)] below meth c s₁ [] 0 0 := Stand.of_body Bd
  have e0 : s₁.heap = h0 := by rw [← hh, Bd.state]; rfl
  have N0 := Fr.nil n0
  refine own_start (F0 := fun o U' => ∃ v L, o = .returned v ∧ Q_l12Emp Z oa h0 n0 v U'.heap L ∧ FrameEnd s o U' L ({ frames := 0, cells := 0, slots := 0, locals := 0 } : Room).cells ({ frames := 0, cells := 0, slots := 0, locals := 0 } : Room).slots) fun F hF => ?_
  rw [own_ef_l12Emp m oa]
  refine own_st (V := s₁.setTop (mkF m 1 #[.val (.ref oa)] [(.int (0 : Int32))])) (fun _ hk => XS.iconst X0.here hx rfl (hb hby d37_0) hk) ?_
  exact own_retN X0 hx Bd.notSynchronized Bd.returns rfl (by simp) (hb hby d37_1) (by decide) (by decide) (fun U hU hE => hF _ _ ⟨_, _, rfl, (by rw [hU, e0]; exact ⟨rfl, N0, rfl⟩), hE⟩)
theorem d40_0 : decode prog_80_method_5_code 0 = .ok (.aload_n 0, 1) := by decide +kernel
theorem d40_1 : decode prog_80_method_5_code 1 = .ok (.getfield 17, 3) := by decide +kernel
theorem d40_4 : decode prog_80_method_5_code 4 = .ok (.areturn, 1) := by decide +kernel
theorem own_ef_before (m : MethodId) (x0 : Addr) : entryFrame m #[(.ref x0)] 1 = mkF m 0 #[.val (.ref x0)] [] := by first | (simp [entryFrame, mkF, argsToLocals, Value.category]; done) | rfl
def Q_before (Z : State) (oa : Addr) (q : Addr) (h0 : Heap) (n0 : Nat) (v : Option Value) (h : Heap) (L : List Loc) : Prop := v = some (.ref q) ∧ Fr n0 L ∧ h = h0
set_option maxRecDepth 65536 in
set_option maxHeartbeats 40000000 in
theorem rm_before (l : Launch) (Z : State) (a0 : Array Value) (hw : ∀ d ∈ tables_1, d.before a0 Z = true) (ws : List Jvm.Cond) (oa : Addr) (q : Addr) (h0 : Heap) (n0 : Nat) (Z0 : n0 ≤ h0.size) (F_1 : Fld Z h0 oa "com/example/vestline/vestline/service/SetAside" "before" "Ljava/time/LocalDate;" (.ref q)) :
    MetFree l (⟨"com/example/vestline/vestline/service/SetAside", "before", "()Ljava/time/LocalDate;"⟩ : MethodName) (head1 (Jvm.Cond.code (⟨"com/example/vestline/vestline/service/SetAside", "before", "()Ljava/time/LocalDate;"⟩ : MethodName) prog_80_method_5_code 1 (some (.object "java/time/LocalDate")) :: ws) ({ frames := 0, cells := 0, slots := 0, locals := 0 } : Room)) (fun a U => a = #[(.ref oa)] ∧ Z.Warmed39 U.vm ∧ U.heap = h0) (fun _ _ _ _ _ => True) (fun _ U o U' => ∃ v L, o = .returned v ∧ Q_before Z oa q h0 n0 v U'.heap L ∧ FrameEnd U o U' L ({ frames := 0, cells := 0, slots := 0, locals := 0 } : Room).cells ({ frames := 0, cells := 0, slots := 0, locals := 0 } : Room).slots) := by
  refine MetFree.of_bodySF (plainFor_of_name own_pn_com_example_vestline_vestline_service_SetAside) hisR ?_
  intro p e s m args below meth c s₁ Bd hml0 hP hK
  obtain ⟨rfl, hZ, hh⟩ := hP
  have hx := Bd.exec
  have hby := Bd.bytes
  have hml : c.maxLocals = 1 := hml0
  have hown : s.vm.findClass "com/example/vestline/vestline/service/SetAside" = some m.cls := findClass_of_methodNamed Bd.named
  have hnm := (name_of_methodNamed Bd.named Bd.method).1
  have X0 : Stand p l e ({ frames := 0, cells := 0, slots := 0, locals := 0 } : Room) s m #[(.ref oa)] below meth c s₁ [] 0 0 := Stand.of_body Bd
  have e0 : s₁.heap = h0 := by rw [← hh, Bd.state]; rfl
  have N0 := Fr.nil n0
  refine own_start (F0 := fun o U' => ∃ v L, o = .returned v ∧ Q_before Z oa q h0 n0 v U'.heap L ∧ FrameEnd s o U' L ({ frames := 0, cells := 0, slots := 0, locals := 0 } : Room).cells ({ frames := 0, cells := 0, slots := 0, locals := 0 } : Room).slots) fun F hF => ?_
  rw [own_ef_before m oa]
  refine own_st (V := s₁.setTop (mkF m 1 #[.val (.ref oa)] [(.ref oa)])) (fun _ hk => XS.aloadN X0.here hx rfl (hb hby d40_0) rfl rfl hk) ?_
  obtain ⟨T1, X1, e1, st1⟩ := getF X0 hx hZ hown (host := "") (Or.inl (hw _ (List.mem_of_getElem? (i := 93) rfl))) Via.refl e0 F_1 (g := (mkF m 1 #[.val (.ref oa)] [(.ref oa)])) rfl rfl (hb hby d40_1)
  refine own_st (V := T1.setTop (mkF m 4 #[.val (.ref oa)] [(.ref q)])) st1 ?_
  exact own_retA X1 hx Bd.notSynchronized Bd.returns rfl rfl (hb hby d40_4) (by decide) (by decide) (fun U hU hE => hF _ _ ⟨_, _, rfl, (by rw [hU, e1]; exact ⟨rfl, N0, rfl⟩), hE⟩)
theorem d38_0 : decode jdk_44_method_3_code 0 = .ok (.aload_n 0, 1) := by decide +kernel
theorem d38_1 : decode jdk_44_method_3_code 1 = .ok (.getfield 24, 3) := by decide +kernel
theorem d38_4 : decode jdk_44_method_3_code 4 = .ok (.getstatic 19, 3) := by decide +kernel
theorem d38_7 : decode jdk_44_method_3_code 7 = .ok (.if_acmp .eq 7, 3) := by decide +kernel
theorem d38_14 : decode jdk_44_method_3_code 14 = .ok (.iconst 1, 1) := by decide +kernel
theorem d38_15 : decode jdk_44_method_3_code 15 = .ok (.ireturn, 1) := by decide +kernel
theorem own_ef_sz1 (m : MethodId) (x0 : Addr) : entryFrame m #[(.ref x0)] 1 = mkF m 0 #[.val (.ref x0)] [] := by first | (simp [entryFrame, mkF, argsToLocals, Value.category]; done) | rfl
def Q_sz1 (Z : State) (oa : Addr) (dc el ea em mr : Addr) (kd ke : ClassId) (h0 : Heap) (n0 : Nat) (v : Option Value) (h : Heap) (L : List Loc) : Prop := v = some (.int 1) ∧ Fr n0 L ∧ h = h0
set_option maxRecDepth 65536 in
set_option maxHeartbeats 40000000 in
theorem rm_sz1 (l : Launch) (Z : State) (a0 : Array Value) (hw : ∀ d ∈ tables_1, d.before a0 Z = true) (ws : List Jvm.Cond) (oa : Addr) (dc el ea em mr : Addr) (kd ke : ClassId) (h0 : Heap) (n0 : Nat) (Z0 : n0 ≤ h0.size) (O : Old Z n0 h0) (hT : own_ST Z dc el ea em mr kd ke) (F_1 : Fld Z h0 oa "java/util/ImmutableCollections$List12" "e1" "Ljava/lang/Object;" (.ref em)) :
    MetFree l (⟨"java/util/ImmutableCollections$List12", "size", "()I"⟩ : MethodName) (head1 (Jvm.Cond.code (⟨"java/util/ImmutableCollections$List12", "size", "()I"⟩ : MethodName) jdk_44_method_3_code 1 (some .int) :: ws) ({ frames := 0, cells := 0, slots := 0, locals := 0 } : Room)) (fun a U => a = #[(.ref oa)] ∧ Z.Warmed39 U.vm ∧ U.heap = h0) (fun _ _ _ _ _ => True) (fun _ U o U' => ∃ v L, o = .returned v ∧ Q_sz1 Z oa dc el ea em mr kd ke h0 n0 v U'.heap L ∧ FrameEnd U o U' L ({ frames := 0, cells := 0, slots := 0, locals := 0 } : Room).cells ({ frames := 0, cells := 0, slots := 0, locals := 0 } : Room).slots) := by
  refine MetFree.of_bodySF (plainFor_of_name own_pn_java_util_ImmutableCollections_List12) hisR ?_
  intro p e s m args below meth c s₁ Bd hml0 hP hK
  obtain ⟨rfl, hZ, hh⟩ := hP
  have hx := Bd.exec
  have hby := Bd.bytes
  have hml : c.maxLocals = 1 := hml0
  have hown : s.vm.findClass "java/util/ImmutableCollections$List12" = some m.cls := findClass_of_methodNamed Bd.named
  have hnm := (name_of_methodNamed Bd.named Bd.method).1
  have X0 : Stand p l e ({ frames := 0, cells := 0, slots := 0, locals := 0 } : Room) s m #[(.ref oa)] below meth c s₁ [] 0 0 := Stand.of_body Bd
  have e0 : s₁.heap = h0 := by rw [← hh, Bd.state]; rfl
  have N0 := Fr.nil n0
  refine own_start (F0 := fun o U' => ∃ v L, o = .returned v ∧ Q_sz1 Z oa dc el ea em mr kd ke h0 n0 v U'.heap L ∧ FrameEnd s o U' L ({ frames := 0, cells := 0, slots := 0, locals := 0 } : Room).cells ({ frames := 0, cells := 0, slots := 0, locals := 0 } : Room).slots) fun F hF => ?_
  rw [own_ef_sz1 m oa]
  obtain ⟨Sdc, Vdc, Sel, Eel, Fel, Vea, Sem, Eem, hM⟩ := hT
  refine own_st (V := s₁.setTop (mkF m 1 #[.val (.ref oa)] [(.ref oa)])) (fun _ hk => XS.aloadN X0.here hx rfl (hb hby d38_0) rfl rfl hk) ?_
  obtain ⟨T1, X1, e1, st1⟩ := getF X0 hx hZ hown (host := "") (Or.inl (hw _ (List.mem_of_getElem? (i := 268) rfl))) Via.refl e0 F_1 (g := (mkF m 1 #[.val (.ref oa)] [(.ref oa)])) rfl rfl (hb hby d38_1)
  refine own_st (V := T1.setTop (mkF m 4 #[.val (.ref oa)] [(.ref em)])) st1 ?_
  obtain ⟨T2, X2, e2, st2⟩ := getS2 X1 hx hZ hown (Or.inr (hw _ (List.mem_of_getElem? (i := 284) rfl))) Via.refl e1 (Sem.ext O.2) (g := (mkF m 4 #[.val (.ref oa)] [(.ref em)])) rfl (hb hby d38_4)
  refine own_st (V := T2.setTop (mkF m 7 #[.val (.ref oa)] [(.ref em), (.ref em)])) st2 ?_
  refine own_st (V := T2.setTop (mkF m 14 #[.val (.ref oa)] [])) (fun _ hk => Jvm.RoadKit.acmp (g := (mkF m 7 #[.val (.ref oa)] [(.ref em), (.ref em)])) X2 hx rfl rfl rfl (pc0 := 7) (pc' := 14) (same := true) rfl (hb hby d38_7) rfl (decide_eq_true rfl) (by decide) (by decide) hk) ?_
  refine own_st (V := T2.setTop (mkF m 15 #[.val (.ref oa)] [(.int (1 : Int32))])) (fun _ hk => XS.iconst X2.here hx rfl (hb hby d38_14) hk) ?_
  exact own_retI X2 hx Bd.notSynchronized Bd.returns (hb hby d38_15) (by decide) (by decide) (fun U hU hE => hF _ _ ⟨_, _, rfl, (by rw [hU, e2]; exact ⟨rfl, N0, rfl⟩), hE⟩)
theorem d39_0 : decode jdk_44_method_5_code 0 = .ok (.iload_n 1, 1) := by decide +kernel
theorem d39_1 : decode jdk_44_method_5_code 1 = .ok (.ifCond .ne 8, 3) := by decide +kernel
theorem d39_4 : decode jdk_44_method_5_code 4 = .ok (.aload_n 0, 1) := by decide +kernel
theorem d39_5 : decode jdk_44_method_5_code 5 = .ok (.getfield 13, 3) := by decide +kernel
theorem d39_8 : decode jdk_44_method_5_code 8 = .ok (.areturn, 1) := by decide +kernel
theorem own_ef_get1 (m : MethodId) (x0 : Addr) (x1 : Int32) : entryFrame m #[(.ref x0), (.int x1)] 2 = mkF m 0 #[.val (.ref x0), .val (.int x1)] [] := by first | (simp [entryFrame, mkF, argsToLocals, Value.category]; done) | rfl
def Q_get1 (Z : State) (oa y1 : Addr) (jx : Int32) (h0 : Heap) (n0 : Nat) (v : Option Value) (h : Heap) (L : List Loc) : Prop := v = some (.ref y1) ∧ Fr n0 L ∧ h = h0
set_option maxRecDepth 65536 in
set_option maxHeartbeats 40000000 in
theorem rm_get1 (l : Launch) (Z : State) (a0 : Array Value) (hw : ∀ d ∈ tables_1, d.before a0 Z = true) (ws : List Jvm.Cond) (oa y1 : Addr) (jx : Int32) (h0 : Heap) (n0 : Nat) (Z0 : n0 ≤ h0.size) (F_0 : Fld Z h0 oa "java/util/ImmutableCollections$List12" "e0" "Ljava/lang/Object;" (.ref y1)) (hj : jx = 0) :
    MetFree l (⟨"java/util/ImmutableCollections$List12", "get", "(I)Ljava/lang/Object;"⟩ : MethodName) (head1 (Jvm.Cond.code (⟨"java/util/ImmutableCollections$List12", "get", "(I)Ljava/lang/Object;"⟩ : MethodName) jdk_44_method_5_code 2 (some (.object "java/lang/Object")) :: ws) ({ frames := 0, cells := 0, slots := 0, locals := 0 } : Room)) (fun a U => a = #[(.ref oa), (.int jx)] ∧ Z.Warmed39 U.vm ∧ U.heap = h0) (fun _ _ _ _ _ => True) (fun _ U o U' => ∃ v L, o = .returned v ∧ Q_get1 Z oa y1 jx h0 n0 v U'.heap L ∧ FrameEnd U o U' L ({ frames := 0, cells := 0, slots := 0, locals := 0 } : Room).cells ({ frames := 0, cells := 0, slots := 0, locals := 0 } : Room).slots) := by
  refine MetFree.of_bodySF (plainFor_of_name own_pn_java_util_ImmutableCollections_List12) hisR ?_
  intro p e s m args below meth c s₁ Bd hml0 hP hK
  obtain ⟨rfl, hZ, hh⟩ := hP
  have hx := Bd.exec
  have hby := Bd.bytes
  have hml : c.maxLocals = 2 := hml0
  have hown : s.vm.findClass "java/util/ImmutableCollections$List12" = some m.cls := findClass_of_methodNamed Bd.named
  have hnm := (name_of_methodNamed Bd.named Bd.method).1
  have X0 : Stand p l e ({ frames := 0, cells := 0, slots := 0, locals := 0 } : Room) s m #[(.ref oa), (.int jx)] below meth c s₁ [] 0 0 := Stand.of_body Bd
  have e0 : s₁.heap = h0 := by rw [← hh, Bd.state]; rfl
  have N0 := Fr.nil n0
  refine own_start (F0 := fun o U' => ∃ v L, o = .returned v ∧ Q_get1 Z oa y1 jx h0 n0 v U'.heap L ∧ FrameEnd s o U' L ({ frames := 0, cells := 0, slots := 0, locals := 0 } : Room).cells ({ frames := 0, cells := 0, slots := 0, locals := 0 } : Room).slots) fun F hF => ?_
  rw [own_ef_get1 m oa jx]
  refine own_st (V := s₁.setTop (mkF m 1 #[.val (.ref oa), .val (.int jx)] [(.int jx)])) (fun _ hk => XS.iloadN X0.here hx rfl (hb hby d39_0) rfl  hk) ?_
  refine own_st (V := s₁.setTop (mkF m 4 #[.val (.ref oa), .val (.int jx)] [])) (fun _ hk => XS.ifNo X0.here hx rfl (hb hby d39_1) rfl ((if0 _ _).trans (teq (show jx = (0 : Int32) from hj)).2) hk) ?_
  refine own_st (V := s₁.setTop (mkF m 5 #[.val (.ref oa), .val (.int jx)] [(.ref oa)])) (fun _ hk => XS.aloadN X0.here hx rfl (hb hby d39_4) rfl rfl hk) ?_
  obtain ⟨T1, X1, e1, st1⟩ := getF X0 hx hZ hown (host := "") (Or.inl (hw _ (List.mem_of_getElem? (i := 266) rfl))) Via.refl e0 F_0 (g := (mkF m 5 #[.val (.ref oa), .val (.int jx)] [(.ref oa)])) rfl rfl (hb hby d39_5)
  refine own_st (V := T1.setTop (mkF m 8 #[.val (.ref oa), .val (.int jx)] [(.ref y1)])) st1 ?_
  exact own_retA X1 hx Bd.notSynchronized Bd.returns rfl rfl (hb hby d39_8) (by decide) (by decide) (fun U hU hE => hF _ _ ⟨_, _, rfl, (by rw [hU, e1]; exact ⟨rfl, N0, rfl⟩), hE⟩)
theorem d38_10 : decode jdk_44_method_3_code 10 = .ok (.iconst 2, 1) := by decide +kernel
theorem d38_11 : decode jdk_44_method_3_code 11 = .ok (.goto 4, 3) := by decide +kernel
theorem own_ef_sz2 (m : MethodId) (x0 : Addr) : entryFrame m #[(.ref x0)] 1 = mkF m 0 #[.val (.ref x0)] [] := by first | (simp [entryFrame, mkF, argsToLocals, Value.category]; done) | rfl
def Q_sz2 (Z : State) (oa y2 : Addr) (dc el ea em mr : Addr) (kd ke : ClassId) (h0 : Heap) (n0 : Nat) (v : Option Value) (h : Heap) (L : List Loc) : Prop := v = some (.int 2) ∧ Fr n0 L ∧ h = h0
set_option maxRecDepth 65536 in
set_option maxHeartbeats 40000000 in
theorem rm_sz2 (l : Launch) (Z : State) (a0 : Array Value) (hw : ∀ d ∈ tables_1, d.before a0 Z = true) (ws : List Jvm.Cond) (oa y2 : Addr) (dc el ea em mr : Addr) (kd ke : ClassId) (h0 : Heap) (n0 : Nat) (Z0 : n0 ≤ h0.size) (O : Old Z n0 h0) (hT : own_ST Z dc el ea em mr kd ke) (F_1 : Fld Z h0 oa "java/util/ImmutableCollections$List12" "e1" "Ljava/lang/Object;" (.ref y2)) (hne : ¬ y2 = em) :
    MetFree l (⟨"java/util/ImmutableCollections$List12", "size", "()I"⟩ : MethodName) (head1 (Jvm.Cond.code (⟨"java/util/ImmutableCollections$List12", "size", "()I"⟩ : MethodName) jdk_44_method_3_code 1 (some .int) :: ws) ({ frames := 0, cells := 0, slots := 0, locals := 0 } : Room)) (fun a U => a = #[(.ref oa)] ∧ Z.Warmed39 U.vm ∧ U.heap = h0) (fun _ _ _ _ _ => True) (fun _ U o U' => ∃ v L, o = .returned v ∧ Q_sz2 Z oa y2 dc el ea em mr kd ke h0 n0 v U'.heap L ∧ FrameEnd U o U' L ({ frames := 0, cells := 0, slots := 0, locals := 0 } : Room).cells ({ frames := 0, cells := 0, slots := 0, locals := 0 } : Room).slots) := by
  refine MetFree.of_bodySF (plainFor_of_name own_pn_java_util_ImmutableCollections_List12) hisR ?_
  intro p e s m args below meth c s₁ Bd hml0 hP hK
  obtain ⟨rfl, hZ, hh⟩ := hP
  have hx := Bd.exec
  have hby := Bd.bytes
  have hml : c.maxLocals = 1 := hml0
  have hown : s.vm.findClass "java/util/ImmutableCollections$List12" = some m.cls := findClass_of_methodNamed Bd.named
  have hnm := (name_of_methodNamed Bd.named Bd.method).1
  have X0 : Stand p l e ({ frames := 0, cells := 0, slots := 0, locals := 0 } : Room) s m #[(.ref oa)] below meth c s₁ [] 0 0 := Stand.of_body Bd
  have e0 : s₁.heap = h0 := by rw [← hh, Bd.state]; rfl
  have N0 := Fr.nil n0
  refine own_start (F0 := fun o U' => ∃ v L, o = .returned v ∧ Q_sz2 Z oa y2 dc el ea em mr kd ke h0 n0 v U'.heap L ∧ FrameEnd s o U' L ({ frames := 0, cells := 0, slots := 0, locals := 0 } : Room).cells ({ frames := 0, cells := 0, slots := 0, locals := 0 } : Room).slots) fun F hF => ?_
  rw [own_ef_sz2 m oa]
  obtain ⟨Sdc, Vdc, Sel, Eel, Fel, Vea, Sem, Eem, hM⟩ := hT
  refine own_st (V := s₁.setTop (mkF m 1 #[.val (.ref oa)] [(.ref oa)])) (fun _ hk => XS.aloadN X0.here hx rfl (hb hby d38_0) rfl rfl hk) ?_
  obtain ⟨T1, X1, e1, st1⟩ := getF X0 hx hZ hown (host := "") (Or.inl (hw _ (List.mem_of_getElem? (i := 268) rfl))) Via.refl e0 F_1 (g := (mkF m 1 #[.val (.ref oa)] [(.ref oa)])) rfl rfl (hb hby d38_1)
  refine own_st (V := T1.setTop (mkF m 4 #[.val (.ref oa)] [(.ref y2)])) st1 ?_
  obtain ⟨T2, X2, e2, st2⟩ := getS2 X1 hx hZ hown (Or.inr (hw _ (List.mem_of_getElem? (i := 284) rfl))) Via.refl e1 (Sem.ext O.2) (g := (mkF m 4 #[.val (.ref oa)] [(.ref y2)])) rfl (hb hby d38_4)
  refine own_st (V := T2.setTop (mkF m 7 #[.val (.ref oa)] [(.ref em), (.ref y2)])) st2 ?_
  refine own_st (V := T2.setTop (mkF m 10 #[.val (.ref oa)] [])) (fun _ hk => Jvm.RoadKit.acmp (g := (mkF m 7 #[.val (.ref oa)] [(.ref em), (.ref y2)])) X2 hx rfl rfl rfl (pc0 := 7) (pc' := 10) (same := false) rfl (hb hby d38_7) rfl (decide_eq_false fun q => hne (Value.ref.inj q)) (by decide) (by decide) hk) ?_
  refine own_st (V := T2.setTop (mkF m 11 #[.val (.ref oa)] [(.int (2 : Int32))])) (fun _ hk => XS.iconst X2.here hx rfl (hb hby d38_10) hk) ?_
  refine own_st (V := T2.setTop (mkF m 15 #[.val (.ref oa)] [(.int (2 : Int32))])) (fun _ hk => XS.goto X2.here hx rfl (pc0 := 11) (pc' := 15) rfl (hb hby d38_11) (by decide) (by decide) hk) ?_
  exact own_retI X2 hx Bd.notSynchronized Bd.returns (hb hby d38_15) (by decide) (by decide) (fun U hU hE => hF _ _ ⟨_, _, rfl, (by rw [hU, e2]; exact ⟨rfl, N0, rfl⟩), hE⟩)
theorem d39_9 : decode jdk_44_method_5_code 9 = .ok (.iload_n 1, 1) := by decide +kernel
theorem d39_10 : decode jdk_44_method_5_code 10 = .ok (.iconst 1, 1) := by decide +kernel
theorem d39_11 : decode jdk_44_method_5_code 11 = .ok (.if_icmp .ne 18, 3) := by decide +kernel
theorem d39_14 : decode jdk_44_method_5_code 14 = .ok (.aload_n 0, 1) := by decide +kernel
theorem d39_15 : decode jdk_44_method_5_code 15 = .ok (.getfield 24, 3) := by decide +kernel
theorem d39_18 : decode jdk_44_method_5_code 18 = .ok (.getstatic 19, 3) := by decide +kernel
theorem d39_21 : decode jdk_44_method_5_code 21 = .ok (.if_acmp .eq 8, 3) := by decide +kernel
theorem d39_24 : decode jdk_44_method_5_code 24 = .ok (.aload_n 0, 1) := by decide +kernel
theorem d39_25 : decode jdk_44_method_5_code 25 = .ok (.getfield 24, 3) := by decide +kernel
theorem d39_28 : decode jdk_44_method_5_code 28 = .ok (.areturn, 1) := by decide +kernel
theorem own_ef_get2 (m : MethodId) (x0 : Addr) (x1 : Int32) : entryFrame m #[(.ref x0), (.int x1)] 2 = mkF m 0 #[.val (.ref x0), .val (.int x1)] [] := by first | (simp [entryFrame, mkF, argsToLocals, Value.category]; done) | rfl
def Q_get2 (Z : State) (oa y2 : Addr) (jx : Int32) (dc el ea em mr : Addr) (kd ke : ClassId) (h0 : Heap) (n0 : Nat) (v : Option Value) (h : Heap) (L : List Loc) : Prop := v = some (.ref y2) ∧ Fr n0 L ∧ h = h0
set_option maxRecDepth 65536 in
set_option maxHeartbeats 40000000 in
theorem rm_get2 (l : Launch) (Z : State) (a0 : Array Value) (hw : ∀ d ∈ tables_1, d.before a0 Z = true) (ws : List Jvm.Cond) (oa y2 : Addr) (jx : Int32) (dc el ea em mr : Addr) (kd ke : ClassId) (h0 : Heap) (n0 : Nat) (Z0 : n0 ≤ h0.size) (O : Old Z n0 h0) (hT : own_ST Z dc el ea em mr kd ke) (F_1 : Fld Z h0 oa "java/util/ImmutableCollections$List12" "e1" "Ljava/lang/Object;" (.ref y2)) (hne : ¬ y2 = em) (hj : jx = 1) :
    MetFree l (⟨"java/util/ImmutableCollections$List12", "get", "(I)Ljava/lang/Object;"⟩ : MethodName) (head1 (Jvm.Cond.code (⟨"java/util/ImmutableCollections$List12", "get", "(I)Ljava/lang/Object;"⟩ : MethodName) jdk_44_method_5_code 2 (some (.object "java/lang/Object")) :: ws) ({ frames := 0, cells := 0, slots := 0, locals := 0 } : Room)) (fun a U => a = #[(.ref oa), (.int jx)] ∧ Z.Warmed39 U.vm ∧ U.heap = h0) (fun _ _ _ _ _ => True) (fun _ U o U' => ∃ v L, o = .returned v ∧ Q_get2 Z oa y2 jx dc el ea em mr kd ke h0 n0 v U'.heap L ∧ FrameEnd U o U' L ({ frames := 0, cells := 0, slots := 0, locals := 0 } : Room).cells ({ frames := 0, cells := 0, slots := 0, locals := 0 } : Room).slots) := by
  refine MetFree.of_bodySF (plainFor_of_name own_pn_java_util_ImmutableCollections_List12) hisR ?_
  intro p e s m args below meth c s₁ Bd hml0 hP hK
  obtain ⟨rfl, hZ, hh⟩ := hP
  have hx := Bd.exec
  have hby := Bd.bytes
  have hml : c.maxLocals = 2 := hml0
  have hown : s.vm.findClass "java/util/ImmutableCollections$List12" = some m.cls := findClass_of_methodNamed Bd.named
  have hnm := (name_of_methodNamed Bd.named Bd.method).1
  have X0 : Stand p l e ({ frames := 0, cells := 0, slots := 0, locals := 0 } : Room) s m #[(.ref oa), (.int jx)] below meth c s₁ [] 0 0 := Stand.of_body Bd
  have e0 : s₁.heap = h0 := by rw [← hh, Bd.state]; rfl
  have N0 := Fr.nil n0
  refine own_start (F0 := fun o U' => ∃ v L, o = .returned v ∧ Q_get2 Z oa y2 jx dc el ea em mr kd ke h0 n0 v U'.heap L ∧ FrameEnd s o U' L ({ frames := 0, cells := 0, slots := 0, locals := 0 } : Room).cells ({ frames := 0, cells := 0, slots := 0, locals := 0 } : Room).slots) fun F hF => ?_
  rw [own_ef_get2 m oa jx]
  obtain ⟨Sdc, Vdc, Sel, Eel, Fel, Vea, Sem, Eem, hM⟩ := hT
  refine own_st (V := s₁.setTop (mkF m 1 #[.val (.ref oa), .val (.int jx)] [(.int jx)])) (fun _ hk => XS.iloadN X0.here hx rfl (hb hby d39_0) rfl  hk) ?_
  refine own_st (V := s₁.setTop (mkF m 9 #[.val (.ref oa), .val (.int jx)] [])) (fun _ hk => XS.ifYes X0.here hx rfl (pc0 := 1) (pc' := 9) rfl (hb hby d39_1) rfl ((if0 _ _).trans (feq (show ¬ (jx = (0 : Int32)) from (by rw [hj]; decide))).2) (by decide) (by decide) hk) ?_
  refine own_st (V := s₁.setTop (mkF m 10 #[.val (.ref oa), .val (.int jx)] [(.int jx)])) (fun _ hk => XS.iloadN X0.here hx rfl (hb hby d39_9) rfl  hk) ?_
  refine own_st (V := s₁.setTop (mkF m 11 #[.val (.ref oa), .val (.int jx)] [(.int (1 : Int32)), (.int jx)])) (fun _ hk => XS.iconst X0.here hx rfl (hb hby d39_10) hk) ?_
  refine own_st (V := s₁.setTop (mkF m 14 #[.val (.ref oa), .val (.int jx)] [])) (fun _ hk => XS.icmpNo X0.here hx rfl (hb hby d39_11) rfl (teq (show jx = (1 : Int32) from hj)).2 hk) ?_
  refine own_st (V := s₁.setTop (mkF m 15 #[.val (.ref oa), .val (.int jx)] [(.ref oa)])) (fun _ hk => XS.aloadN X0.here hx rfl (hb hby d39_14) rfl rfl hk) ?_
  obtain ⟨T1, X1, e1, st1⟩ := getF X0 hx hZ hown (host := "") (Or.inl (hw _ (List.mem_of_getElem? (i := 268) rfl))) Via.refl e0 F_1 (g := (mkF m 15 #[.val (.ref oa), .val (.int jx)] [(.ref oa)])) rfl rfl (hb hby d39_15)
  refine own_st (V := T1.setTop (mkF m 18 #[.val (.ref oa), .val (.int jx)] [(.ref y2)])) st1 ?_
  obtain ⟨T2, X2, e2, st2⟩ := getS2 X1 hx hZ hown (Or.inr (hw _ (List.mem_of_getElem? (i := 284) rfl))) Via.refl e1 (Sem.ext O.2) (g := (mkF m 18 #[.val (.ref oa), .val (.int jx)] [(.ref y2)])) rfl (hb hby d39_18)
  refine own_st (V := T2.setTop (mkF m 21 #[.val (.ref oa), .val (.int jx)] [(.ref em), (.ref y2)])) st2 ?_
  refine own_st (V := T2.setTop (mkF m 24 #[.val (.ref oa), .val (.int jx)] [])) (fun _ hk => Jvm.RoadKit.acmp (g := (mkF m 21 #[.val (.ref oa), .val (.int jx)] [(.ref em), (.ref y2)])) X2 hx rfl rfl rfl (pc0 := 21) (pc' := 24) (same := false) rfl (hb hby d39_21) rfl (decide_eq_false fun q => hne (Value.ref.inj q)) (by decide) (by decide) hk) ?_
  refine own_st (V := T2.setTop (mkF m 25 #[.val (.ref oa), .val (.int jx)] [(.ref oa)])) (fun _ hk => XS.aloadN X2.here hx rfl (hb hby d39_24) rfl rfl hk) ?_
  obtain ⟨T3, X3, e3, st3⟩ := getF X2 hx hZ hown (host := "") (Or.inl (hw _ (List.mem_of_getElem? (i := 268) rfl))) Via.refl e2 F_1 (g := (mkF m 25 #[.val (.ref oa), .val (.int jx)] [(.ref oa)])) rfl rfl (hb hby d39_25)
  refine own_st (V := T3.setTop (mkF m 28 #[.val (.ref oa), .val (.int jx)] [(.ref y2)])) st3 ?_
  exact own_retA X3 hx Bd.notSynchronized Bd.returns rfl rfl (hb hby d39_28) (by decide) (by decide) (fun U hU hE => hF _ _ ⟨_, _, rfl, (by rw [hU, e3]; exact ⟨rfl, N0, rfl⟩), hE⟩)
theorem d21_0 : decode prog_76_method_2_code 0 = .ok (.aload_n 0, 1) := by decide +kernel
theorem d21_1 : decode prog_76_method_2_code 1 = .ok (.getfield 23, 3) := by decide +kernel
theorem d21_4 : decode prog_76_method_2_code 4 = .ok (.invokeinterface 26 1, 5) := by decide +kernel
theorem d21_9 : decode prog_76_method_2_code 9 = .ok (.ifCond .eq 7, 3) := by decide +kernel
theorem d21_12 : decode prog_76_method_2_code 12 = .ok (.aconst_null, 1) := by decide +kernel
theorem d21_13 : decode prog_76_method_2_code 13 = .ok (.goto 29, 3) := by decide +kernel
theorem d21_42 : decode prog_76_method_2_code 42 = .ok (.areturn, 1) := by decide +kernel
theorem own_ef_sab0 (m : MethodId) (x0 : Addr) : entryFrame m #[(.ref x0)] 1 = mkF m 0 #[.val (.ref x0)] [] := by first | (simp [entryFrame, mkF, argsToLocals, Value.category]; done) | rfl
def Q_sab0 (Z : State) (sc : Addr) (dc el ea em mr : Addr) (kd ke : ClassId) (h0 : Heap) (n0 : Nat) (v : Option Value) (h : Heap) (L : List Loc) : Prop := v = some .null ∧ Fr n0 L ∧ h = h0
set_option maxRecDepth 65536 in
set_option maxHeartbeats 40000000 in
theorem rm_sab0 (l : Launch) (Z : State) (a0 : Array Value) (hw : ∀ d ∈ tables_1, d.before a0 Z = true) (ws : List Jvm.Cond) (sc : Addr) (dc el ea em mr : Addr) (kd ke : ClassId) (h0 : Heap) (n0 : Nat) (Z0 : n0 ≤ h0.size) (O : Old Z n0 h0) (hT : own_ST Z dc el ea em mr kd ke) (F_s : Fld Z h0 sc "com/example/vestline/vestline/service/ServiceCount" "setAsides" "Ljava/util/List;" (.ref el)) :
    MetFree l (⟨"com/example/vestline/vestline/service/ServiceCount", "setAsideBefore", "()Ljava/time/LocalDate;"⟩ : MethodName) (head1 (Jvm.Cond.code (⟨"com/example/vestline/vestline/service/ServiceCount", "setAsideBefore", "()Ljava/time/LocalDate;"⟩ : MethodName) prog_76_method_2_code 1 (some (.object "java/time/LocalDate")) :: ws) ({ frames := 1, cells := 0, slots := 0, locals := 12 } : Room)) (fun a U => a = #[(.ref sc)] ∧ Z.Warmed39 U.vm ∧ U.heap = h0) (fun _ _ _ _ _ => True) (fun _ U o U' => ∃ v L, o = .returned v ∧ Q_sab0 Z sc dc el ea em mr kd ke h0 n0 v U'.heap L ∧ FrameEnd U o U' L ({ frames := 1, cells := 0, slots := 0, locals := 12 } : Room).cells ({ frames := 1, cells := 0, slots := 0, locals := 12 } : Room).slots) := by
  refine MetFree.of_bodySF (plainFor_of_name own_pn_com_example_vestline_vestline_service_ServiceCount) hisR ?_
  intro p e s m args below meth c s₁ Bd hml0 hP hK
  obtain ⟨rfl, hZ, hh⟩ := hP
  have hx := Bd.exec
  have hby := Bd.bytes
  have hml : c.maxLocals = 1 := hml0
  have hown : s.vm.findClass "com/example/vestline/vestline/service/ServiceCount" = some m.cls := findClass_of_methodNamed Bd.named
  have hnm := (name_of_methodNamed Bd.named Bd.method).1
  have X0 : Stand p l e ({ frames := 1, cells := 0, slots := 0, locals := 12 } : Room) s m #[(.ref sc)] below meth c s₁ [] 0 0 := Stand.of_body Bd
  have e0 : s₁.heap = h0 := by rw [← hh, Bd.state]; rfl
  have N0 := Fr.nil n0
  refine own_start (F0 := fun o U' => ∃ v L, o = .returned v ∧ Q_sab0 Z sc dc el ea em mr kd ke h0 n0 v U'.heap L ∧ FrameEnd s o U' L ({ frames := 1, cells := 0, slots := 0, locals := 12 } : Room).cells ({ frames := 1, cells := 0, slots := 0, locals := 12 } : Room).slots) fun F hF => ?_
  rw [own_ef_sab0 m sc]
  have hT' := hT
  obtain ⟨Sdc, Vdc, Sel, Eel, Fel, Vea, Sem, Eem, hM⟩ := hT
  have E_el := Eel.ext O.2
  refine own_st (V := s₁.setTop (mkF m 1 #[.val (.ref sc)] [(.ref sc)])) (fun _ hk => XS.aloadN X0.here hx rfl (hb hby d21_0) rfl rfl hk) ?_
  obtain ⟨T1, X1, e1, st1⟩ := getF X0 hx hZ hown (host := "") (Or.inl (hw _ (List.mem_of_getElem? (i := 161) rfl))) Via.refl e0 F_s (g := (mkF m 1 #[.val (.ref sc)] [(.ref sc)])) rfl rfl (hb hby d21_1)
  refine own_st (V := T1.setTop (mkF m 4 #[.val (.ref sc)] [(.ref el)])) st1 ?_
  obtain ⟨cq2, kq2, q2a, q2b, q2c⟩ := isOf hZ e1 E_el
  obtain ⟨_, _, ⟨T2, L2, k2, n2⟩, -, X2, ⟨Lc2, hQ2, l2, y2, z2⟩, st2⟩ := X1.interfaceBack hx (xi := (⟨"java/util/List", "isEmpty", "()Z"⟩ : MethodName)) (y := (⟨"java/util/ImmutableCollections$ListN", "isEmpty", "()Z"⟩ : MethodName)) hown (mvT hZ (hw _ (List.mem_of_getElem? (i := 168) rfl))) (mvT hZ (hw _ (List.mem_of_getElem? (i := 169) rfl))) (mvT hZ (hw _ (List.mem_of_getElem? (i := 170) rfl))) (mvT hZ (hw _ (List.mem_of_getElem? (i := 171) rfl))) (mvT hZ (hw _ (List.mem_of_getElem? (i := 172) rfl))) (mvT hZ (hw _ (List.mem_of_getElem? (i := 173) rfl))) (mvT hZ (hw _ (List.mem_of_getElem? (i := 174) rfl))) (mvT hZ (hw _ (List.mem_of_getElem? (i := 175) rfl))) (by decide) (backOf (W := 0) (rm_lnEmp l Z a0 hw [] dc el ea em mr kd ke h0 n0 Z0 O hT') hZ (hw _ (List.mem_of_getElem? (i := 177) rfl)) (hw _ (List.mem_of_getElem? (i := 176) rfl)) (by decide) (by decide)) q2a q2b q2c (g := (mkF m 4 #[.val (.ref sc)] [(.ref el)])) rfl (by rw [hml]; rfl) (Steps.refl _) (argsL := []) (rest := []) (lenOf own_pd17 rfl) rfl (by show 2 * 0 + _ ≤ _; exact Nat.le_of_eq rfl) (hb hby d21_4) (fun _ _ => ⟨rfl, e1, (by decide : 0 + 0 ≤ _), (by decide : 0 + 0 ≤ _)⟩)
  dsimp only [Pt.U, Pt.locs, Pt.cells, Pt.slots] at X2 l2 y2 z2 st2 hQ2
  subst l2 y2 z2
  obtain ⟨rfl, N2q, es2⟩ := hQ2
  have N2 := Fr.app N0 N2q
  refine own_tr (V := T2.setTop (mkF m 9 #[.val (.ref sc)] [(.int (1 : Int32))])) st2 ?_
  refine own_st (V := T2.setTop (mkF m 12 #[.val (.ref sc)] [])) (fun _ hk => XS.ifNo X2.here hx rfl (hb hby d21_9) rfl ((if0 _ _).trans (feq (show ¬ ((1 : Int32) = (0 : Int32)) from (by decide))).1) hk) ?_
  refine own_st (V := T2.setTop (mkF m 13 #[.val (.ref sc)] [.null])) (fun _ hk => XS.aconstNull X2.here hx rfl (hb hby d21_12) hk) ?_
  refine own_st (V := T2.setTop (mkF m 42 #[.val (.ref sc)] [.null])) (fun _ hk => XS.goto X2.here hx rfl (pc0 := 13) (pc' := 42) rfl (hb hby d21_13) (by decide) (by decide) hk) ?_
  exact own_retA X2 hx Bd.notSynchronized Bd.returns rfl rfl (hb hby d21_42) (by decide) (by decide) (fun U hU hE => hF _ _ ⟨_, _, rfl, (by rw [hU, es2]; exact ⟨rfl, N2, rfl⟩), hE⟩)
theorem d21_16 : decode prog_76_method_2_code 16 = .ok (.aload_n 0, 1) := by decide +kernel
theorem d21_17 : decode prog_76_method_2_code 17 = .ok (.getfield 23, 3) := by decide +kernel
theorem d21_20 : decode prog_76_method_2_code 20 = .ok (.aload_n 0, 1) := by decide +kernel
theorem d21_21 : decode prog_76_method_2_code 21 = .ok (.getfield 23, 3) := by decide +kernel
theorem d21_24 : decode prog_76_method_2_code 24 = .ok (.invokeinterface 30 1, 5) := by decide +kernel
theorem own_pd21 : parseMethodDescriptor "()I" = some ⟨[], some .int⟩ := by decide +kernel
theorem d21_29 : decode prog_76_method_2_code 29 = .ok (.iconst 1, 1) := by decide +kernel
theorem d21_30 : decode prog_76_method_2_code 30 = .ok (.isub, 1) := by decide +kernel
theorem d21_31 : decode prog_76_method_2_code 31 = .ok (.invokeinterface 34 2, 5) := by decide +kernel
theorem own_pd22 : parseMethodDescriptor "(I)Ljava/lang/Object;" = some ⟨[.int], some (.object "java/lang/Object")⟩ := by decide +kernel
theorem d21_36 : decode prog_76_method_2_code 36 = .ok (.checkcast 38, 3) := by decide +kernel
theorem d21_39 : decode prog_76_method_2_code 39 = .ok (.invokevirtual 40, 3) := by decide +kernel
theorem own_pd23 : parseMethodDescriptor "()Ljava/time/LocalDate;" = some ⟨[], some (.object "java/time/LocalDate")⟩ := by decide +kernel
theorem own_ef_sab1 (m : MethodId) (x0 : Addr) : entryFrame m #[(.ref x0)] 1 = mkF m 0 #[.val (.ref x0)] [] := by first | (simp [entryFrame, mkF, argsToLocals, Value.category]; done) | rfl
def Q_sab1 (Z : State) (sc oa y1 q : Addr) (dc el ea em mr : Addr) (kd ke : ClassId) (h0 : Heap) (n0 : Nat) (v : Option Value) (h : Heap) (L : List Loc) : Prop := v = some (.ref q) ∧ Fr n0 L ∧ h = h0
set_option maxRecDepth 65536 in
set_option maxHeartbeats 40000000 in
theorem rm_sab1 (l : Launch) (Z : State) (a0 : Array Value) (hw : ∀ d ∈ tables_1, d.before a0 Z = true) (ws : List Jvm.Cond) (sc oa y1 q : Addr) (dc el ea em mr : Addr) (kd ke : ClassId) (h0 : Heap) (n0 : Nat) (Z0 : n0 ≤ h0.size) (O : Old Z n0 h0) (hT : own_ST Z dc el ea em mr kd ke) (F_s : Fld Z h0 sc "com/example/vestline/vestline/service/ServiceCount" "setAsides" "Ljava/util/List;" (.ref oa)) (E_a : Exa Z h0 oa "java/util/ImmutableCollections$List12") (F_0 : Fld Z h0 oa "java/util/ImmutableCollections$List12" "e0" "Ljava/lang/Object;" (.ref y1)) (F_1 : Fld Z h0 oa "java/util/ImmutableCollections$List12" "e1" "Ljava/lang/Object;" (.ref em)) (E_y : Exa Z h0 y1 "com/example/vestline/vestline/service/SetAside") (F_b : Fld Z h0 y1 "com/example/vestline/vestline/service/SetAside" "before" "Ljava/time/LocalDate;" (.ref q)) :
    MetFree l (⟨"com/example/vestline/vestline/service/ServiceCount", "setAsideBefore", "()Ljava/time/LocalDate;"⟩ : MethodName) (head1 (Jvm.Cond.code (⟨"com/example/vestline/vestline/service/ServiceCount", "setAsideBefore", "()Ljava/time/LocalDate;"⟩ : MethodName) prog_76_method_2_code 1 (some (.object "java/time/LocalDate")) :: ws) ({ frames := 1, cells := 0, slots := 0, locals := 13 } : Room)) (fun a U => a = #[(.ref sc)] ∧ Z.Warmed39 U.vm ∧ U.heap = h0) (fun _ _ _ _ _ => True) (fun _ U o U' => ∃ v L, o = .returned v ∧ Q_sab1 Z sc oa y1 q dc el ea em mr kd ke h0 n0 v U'.heap L ∧ FrameEnd U o U' L ({ frames := 1, cells := 0, slots := 0, locals := 13 } : Room).cells ({ frames := 1, cells := 0, slots := 0, locals := 13 } : Room).slots) := by
  refine MetFree.of_bodySF (plainFor_of_name own_pn_com_example_vestline_vestline_service_ServiceCount) hisR ?_
  intro p e s m args below meth c s₁ Bd hml0 hP hK
  obtain ⟨rfl, hZ, hh⟩ := hP
  have hx := Bd.exec
  have hby := Bd.bytes
  have hml : c.maxLocals = 1 := hml0
  have hown : s.vm.findClass "com/example/vestline/vestline/service/ServiceCount" = some m.cls := findClass_of_methodNamed Bd.named
  have hnm := (name_of_methodNamed Bd.named Bd.method).1
  have X0 : Stand p l e ({ frames := 1, cells := 0, slots := 0, locals := 13 } : Room) s m #[(.ref sc)] below meth c s₁ [] 0 0 := Stand.of_body Bd
  have e0 : s₁.heap = h0 := by rw [← hh, Bd.state]; rfl
  have N0 := Fr.nil n0
  refine own_start (F0 := fun o U' => ∃ v L, o = .returned v ∧ Q_sab1 Z sc oa y1 q dc el ea em mr kd ke h0 n0 v U'.heap L ∧ FrameEnd s o U' L ({ frames := 1, cells := 0, slots := 0, locals := 13 } : Room).cells ({ frames := 1, cells := 0, slots := 0, locals := 13 } : Room).slots) fun F hF => ?_
  rw [own_ef_sab1 m sc]
  have hT' := hT
  obtain ⟨Sdc, Vdc, Sel, Eel, Fel, Vea, Sem, Eem, hM⟩ := hT
  refine own_st (V := s₁.setTop (mkF m 1 #[.val (.ref sc)] [(.ref sc)])) (fun _ hk => XS.aloadN X0.here hx rfl (hb hby d21_0) rfl rfl hk) ?_
  obtain ⟨T1, X1, e1, st1⟩ := getF X0 hx hZ hown (host := "") (Or.inl (hw _ (List.mem_of_getElem? (i := 161) rfl))) Via.refl e0 F_s (g := (mkF m 1 #[.val (.ref sc)] [(.ref sc)])) rfl rfl (hb hby d21_1)
  refine own_st (V := T1.setTop (mkF m 4 #[.val (.ref sc)] [(.ref oa)])) st1 ?_
  obtain ⟨cq2, kq2, q2a, q2b, q2c⟩ := isOf hZ e1 E_a
  obtain ⟨_, _, ⟨T2, L2, k2, n2⟩, -, X2, ⟨Lc2, hQ2, l2, y2, z2⟩, st2⟩ := X1.interfaceBack hx (xi := (⟨"java/util/List", "isEmpty", "()Z"⟩ : MethodName)) (y := (⟨"java/util/ImmutableCollections$List12", "isEmpty", "()Z"⟩ : MethodName)) hown (mvT hZ (hw _ (List.mem_of_getElem? (i := 168) rfl))) (mvT hZ (hw _ (List.mem_of_getElem? (i := 169) rfl))) (mvT hZ (hw _ (List.mem_of_getElem? (i := 170) rfl))) (mvT hZ (hw _ (List.mem_of_getElem? (i := 270) rfl))) (mvT hZ (hw _ (List.mem_of_getElem? (i := 271) rfl))) (mvT hZ (hw _ (List.mem_of_getElem? (i := 272) rfl))) (mvT hZ (hw _ (List.mem_of_getElem? (i := 273) rfl))) (mvT hZ (hw _ (List.mem_of_getElem? (i := 274) rfl))) (by decide) (backOf (W := 0) (rm_l12Emp l Z a0 hw [] oa h0 n0 Z0) hZ (hw _ (List.mem_of_getElem? (i := 275) rfl)) (hw _ (List.mem_of_getElem? (i := 244) rfl)) (by decide) (by decide)) q2a q2b q2c (g := (mkF m 4 #[.val (.ref sc)] [(.ref oa)])) rfl (by rw [hml]; rfl) (Steps.refl _) (argsL := []) (rest := []) (lenOf own_pd17 rfl) rfl (by show 2 * 0 + _ ≤ _; exact Nat.le_of_eq rfl) (hb hby d21_4) (fun _ _ => ⟨rfl, e1, (by decide : 0 + 0 ≤ _), (by decide : 0 + 0 ≤ _)⟩)
  dsimp only [Pt.U, Pt.locs, Pt.cells, Pt.slots] at X2 l2 y2 z2 st2 hQ2
  subst l2 y2 z2
  obtain ⟨rfl, N2q, es2⟩ := hQ2
  have N2 := Fr.app N0 N2q
  refine own_tr (V := T2.setTop (mkF m 9 #[.val (.ref sc)] [(.int (0 : Int32))])) st2 ?_
  refine own_st (V := T2.setTop (mkF m 16 #[.val (.ref sc)] [])) (fun _ hk => XS.ifYes X2.here hx rfl (pc0 := 9) (pc' := 16) rfl (hb hby d21_9) rfl ((if0 _ _).trans (teq (show (0 : Int32) = (0 : Int32) from rfl)).1) (by decide) (by decide) hk) ?_
  refine own_st (V := T2.setTop (mkF m 17 #[.val (.ref sc)] [(.ref sc)])) (fun _ hk => XS.aloadN X2.here hx rfl (hb hby d21_16) rfl rfl hk) ?_
  obtain ⟨T3, X3, e3, st3⟩ := getF X2 hx hZ hown (host := "") (Or.inl (hw _ (List.mem_of_getElem? (i := 161) rfl))) Via.refl es2 F_s (g := (mkF m 17 #[.val (.ref sc)] [(.ref sc)])) rfl rfl (hb hby d21_17)
  refine own_st (V := T3.setTop (mkF m 20 #[.val (.ref sc)] [(.ref oa)])) st3 ?_
  refine own_st (V := T3.setTop (mkF m 21 #[.val (.ref sc)] [(.ref sc), (.ref oa)])) (fun _ hk => XS.aloadN X3.here hx rfl (hb hby d21_20) rfl rfl hk) ?_
  obtain ⟨T4, X4, e4, st4⟩ := getF X3 hx hZ hown (host := "") (Or.inl (hw _ (List.mem_of_getElem? (i := 161) rfl))) Via.refl e3 F_s (g := (mkF m 21 #[.val (.ref sc)] [(.ref sc), (.ref oa)])) rfl rfl (hb hby d21_21)
  refine own_st (V := T4.setTop (mkF m 24 #[.val (.ref sc)] [(.ref oa), (.ref oa)])) st4 ?_
  obtain ⟨cq5, kq5, q5a, q5b, q5c⟩ := isOf hZ e4 E_a
  obtain ⟨_, _, ⟨T5, L5, k5, n5⟩, -, X5, ⟨Lc5, hQ5, l5, y5, z5⟩, st5⟩ := X4.interfaceBack hx (xi := (⟨"java/util/List", "size", "()I"⟩ : MethodName)) (y := (⟨"java/util/ImmutableCollections$List12", "size", "()I"⟩ : MethodName)) hown (mvT hZ (hw _ (List.mem_of_getElem? (i := 276) rfl))) (mvT hZ (hw _ (List.mem_of_getElem? (i := 277) rfl))) (mvT hZ (hw _ (List.mem_of_getElem? (i := 278) rfl))) (mvT hZ (hw _ (List.mem_of_getElem? (i := 279) rfl))) (mvT hZ (hw _ (List.mem_of_getElem? (i := 280) rfl))) (mvT hZ (hw _ (List.mem_of_getElem? (i := 281) rfl))) (mvT hZ (hw _ (List.mem_of_getElem? (i := 282) rfl))) (mvT hZ (hw _ (List.mem_of_getElem? (i := 274) rfl))) (by decide) (backOf (W := 1) (rm_sz1 l Z a0 hw [] oa dc el ea em mr kd ke h0 n0 Z0 O hT' F_1) hZ (hw _ (List.mem_of_getElem? (i := 283) rfl)) (hw _ (List.mem_of_getElem? (i := 244) rfl)) (by decide) (by decide)) q5a q5b q5c (g := (mkF m 24 #[.val (.ref sc)] [(.ref oa), (.ref oa)])) rfl (by rw [hml]; rfl) (Steps.refl _) (argsL := []) (rest := [(.ref oa)]) (lenOf own_pd21 rfl) rfl (by show 2 * 0 + _ ≤ _; exact Nat.le_of_eq rfl) (hb hby d21_24) (fun _ _ => ⟨rfl, e4, (by decide : 0 + 0 ≤ _), (by decide : 0 + 0 ≤ _)⟩)
  dsimp only [Pt.U, Pt.locs, Pt.cells, Pt.slots] at X5 l5 y5 z5 st5 hQ5
  subst l5 y5 z5
  obtain ⟨rfl, N5q, es5⟩ := hQ5
  have N5 := Fr.app N2 N5q
  refine own_tr (V := T5.setTop (mkF m 29 #[.val (.ref sc)] [(.int (1 : Int32)), (.ref oa)])) st5 ?_
  refine own_st (V := T5.setTop (mkF m 30 #[.val (.ref sc)] [(.int (1 : Int32)), (.int (1 : Int32)), (.ref oa)])) (fun _ hk => XS.iconst X5.here hx rfl (hb hby d21_29) hk) ?_
  refine own_st (V := T5.setTop (mkF m 31 #[.val (.ref sc)] [(.int ((1 : Int32) - (1 : Int32))), (.ref oa)])) (fun _ hk => XS.isub X5.here hx rfl (hb hby d21_30) rfl hk) ?_
  obtain ⟨cq6, kq6, q6a, q6b, q6c⟩ := isOf hZ es5 E_a
  obtain ⟨_, _, ⟨T6, L6, k6, n6⟩, -, X6, ⟨Lc6, hQ6, l6, y6, z6⟩, st6⟩ := X5.interfaceBack hx (xi := (⟨"java/util/List", "get", "(I)Ljava/lang/Object;"⟩ : MethodName)) (y := (⟨"java/util/ImmutableCollections$List12", "get", "(I)Ljava/lang/Object;"⟩ : MethodName)) hown (mvT hZ (hw _ (List.mem_of_getElem? (i := 285) rfl))) (mvT hZ (hw _ (List.mem_of_getElem? (i := 286) rfl))) (mvT hZ (hw _ (List.mem_of_getElem? (i := 287) rfl))) (mvT hZ (hw _ (List.mem_of_getElem? (i := 288) rfl))) (mvT hZ (hw _ (List.mem_of_getElem? (i := 289) rfl))) (mvT hZ (hw _ (List.mem_of_getElem? (i := 290) rfl))) (mvT hZ (hw _ (List.mem_of_getElem? (i := 291) rfl))) (mvT hZ (hw _ (List.mem_of_getElem? (i := 274) rfl))) (by decide) (backOf (W := 0) (rm_get1 l Z a0 hw [] oa y1 _ h0 n0 Z0 F_0 rfl) hZ (hw _ (List.mem_of_getElem? (i := 292) rfl)) (hw _ (List.mem_of_getElem? (i := 244) rfl)) (by decide) (by decide)) q6a q6b q6c (g := (mkF m 31 #[.val (.ref sc)] [(.int ((1 : Int32) - (1 : Int32))), (.ref oa)])) rfl (by rw [hml]; rfl) (Steps.refl _) (argsL := [(.int ((1 : Int32) - (1 : Int32)))]) (rest := []) (lenOf own_pd22 rfl) rfl (by show 2 * 0 + _ ≤ _; exact Nat.le_of_eq rfl) (hb hby d21_31) (fun _ _ => ⟨rfl, es5, (by decide : 0 + 0 ≤ _), (by decide : 0 + 0 ≤ _)⟩)
  dsimp only [Pt.U, Pt.locs, Pt.cells, Pt.slots] at X6 l6 y6 z6 st6 hQ6
  subst l6 y6 z6
  obtain ⟨rfl, N6q, es6⟩ := hQ6
  have N6 := Fr.app N5 N6q
  refine own_tr (V := T6.setTop (mkF m 36 #[.val (.ref sc)] [(.ref y1)])) st6 ?_
  obtain ⟨T7, X7, e7, st7⟩ := castY X6 hx hZ hown (hw _ (List.mem_of_getElem? (i := 293) rfl)) es6 (Ins.self E_y) (g := (mkF m 36 #[.val (.ref sc)] [(.ref y1)])) rfl rfl (hb hby d21_36)
  refine own_st (V := T7.setTop (mkF m 39 #[.val (.ref sc)] [(.ref y1)])) st7 ?_
  obtain ⟨cq8, kq8, q8a, q8b, q8c⟩ := isOf hZ e7 E_y
  obtain ⟨_, _, ⟨T8, L8, k8, n8⟩, -, X8, ⟨Lc8, hQ8, l8, y8, z8⟩, st8⟩ := X7.virtualBack hx (y := (⟨"com/example/vestline/vestline/service/SetAside", "before", "()Ljava/time/LocalDate;"⟩ : MethodName)) (z := (⟨"com/example/vestline/vestline/service/SetAside", "before", "()Ljava/time/LocalDate;"⟩ : MethodName)) hown (mvT hZ (hw _ (List.mem_of_getElem? (i := 295) rfl))) (mvT hZ (hw _ (List.mem_of_getElem? (i := 296) rfl))) (notFace_of_selects (args := #[]) (mvT hZ (hw _ (List.mem_of_getElem? (i := 298) rfl)))) (mvT hZ (hw _ (List.mem_of_getElem? (i := 298) rfl))) (mvT hZ (hw _ (List.mem_of_getElem? (i := 297) rfl))) (by decide) (backOf (W := 0) (rm_before l Z a0 hw [] y1 q h0 n0 Z0 F_b) hZ (hw _ (List.mem_of_getElem? (i := 299) rfl)) (hw _ (List.mem_of_getElem? (i := 70) rfl)) (by decide) (by decide)) q8a q8c (g := (mkF m 39 #[.val (.ref sc)] [(.ref y1)])) rfl (by rw [hml]; rfl) (Steps.refl _) (argsL := []) (rest := []) (lenOf own_pd23 rfl) rfl (by show 2 * 0 + _ ≤ _; exact Nat.le_of_eq rfl) (hb hby d21_39) (fun _ _ => ⟨rfl, e7, (by decide : 0 + 0 ≤ _), (by decide : 0 + 0 ≤ _)⟩)
  dsimp only [Pt.U, Pt.locs, Pt.cells, Pt.slots] at X8 l8 y8 z8 st8 hQ8
  subst l8 y8 z8
  obtain ⟨rfl, N8q, es8⟩ := hQ8
  have N8 := Fr.app N6 N8q
  refine own_tr (V := T8.setTop (mkF m 42 #[.val (.ref sc)] [(.ref q)])) st8 ?_
  exact own_retA X8 hx Bd.notSynchronized Bd.returns rfl rfl (hb hby d21_42) (by decide) (by decide) (fun U hU hE => hF _ _ ⟨_, _, rfl, (by rw [hU, es8]; exact ⟨rfl, N8, rfl⟩), hE⟩)
theorem own_ef_sab2 (m : MethodId) (x0 : Addr) : entryFrame m #[(.ref x0)] 1 = mkF m 0 #[.val (.ref x0)] [] := by first | (simp [entryFrame, mkF, argsToLocals, Value.category]; done) | rfl
def Q_sab2 (Z : State) (sc oa y1 y2 q : Addr) (dc el ea em mr : Addr) (kd ke : ClassId) (h0 : Heap) (n0 : Nat) (v : Option Value) (h : Heap) (L : List Loc) : Prop := v = some (.ref q) ∧ Fr n0 L ∧ h = h0
set_option maxRecDepth 65536 in
set_option maxHeartbeats 40000000 in
theorem rm_sab2 (l : Launch) (Z : State) (a0 : Array Value) (hw : ∀ d ∈ tables_1, d.before a0 Z = true) (ws : List Jvm.Cond) (sc oa y1 y2 q : Addr) (dc el ea em mr : Addr) (kd ke : ClassId) (h0 : Heap) (n0 : Nat) (Z0 : n0 ≤ h0.size) (O : Old Z n0 h0) (hT : own_ST Z dc el ea em mr kd ke) (F_s : Fld Z h0 sc "com/example/vestline/vestline/service/ServiceCount" "setAsides" "Ljava/util/List;" (.ref oa)) (E_a : Exa Z h0 oa "java/util/ImmutableCollections$List12") (F_0 : Fld Z h0 oa "java/util/ImmutableCollections$List12" "e0" "Ljava/lang/Object;" (.ref y1)) (F_1 : Fld Z h0 oa "java/util/ImmutableCollections$List12" "e1" "Ljava/lang/Object;" (.ref y2)) (E_y : Exa Z h0 y2 "com/example/vestline/vestline/service/SetAside") (F_b : Fld Z h0 y2 "com/example/vestline/vestline/service/SetAside" "before" "Ljava/time/LocalDate;" (.ref q)) (hne : ¬ y2 = em) :
    MetFree l (⟨"com/example/vestline/vestline/service/ServiceCount", "setAsideBefore", "()Ljava/time/LocalDate;"⟩ : MethodName) (head1 (Jvm.Cond.code (⟨"com/example/vestline/vestline/service/ServiceCount", "setAsideBefore", "()Ljava/time/LocalDate;"⟩ : MethodName) prog_76_method_2_code 1 (some (.object "java/time/LocalDate")) :: ws) ({ frames := 1, cells := 0, slots := 0, locals := 13 } : Room)) (fun a U => a = #[(.ref sc)] ∧ Z.Warmed39 U.vm ∧ U.heap = h0) (fun _ _ _ _ _ => True) (fun _ U o U' => ∃ v L, o = .returned v ∧ Q_sab2 Z sc oa y1 y2 q dc el ea em mr kd ke h0 n0 v U'.heap L ∧ FrameEnd U o U' L ({ frames := 1, cells := 0, slots := 0, locals := 13 } : Room).cells ({ frames := 1, cells := 0, slots := 0, locals := 13 } : Room).slots) := by
  refine MetFree.of_bodySF (plainFor_of_name own_pn_com_example_vestline_vestline_service_ServiceCount) hisR ?_
  intro p e s m args below meth c s₁ Bd hml0 hP hK
  obtain ⟨rfl, hZ, hh⟩ := hP
  have hx := Bd.exec
  have hby := Bd.bytes
  have hml : c.maxLocals = 1 := hml0
  have hown : s.vm.findClass "com/example/vestline/vestline/service/ServiceCount" = some m.cls := findClass_of_methodNamed Bd.named
  have hnm := (name_of_methodNamed Bd.named Bd.method).1
  have X0 : Stand p l e ({ frames := 1, cells := 0, slots := 0, locals := 13 } : Room) s m #[(.ref sc)] below meth c s₁ [] 0 0 := Stand.of_body Bd
  have e0 : s₁.heap = h0 := by rw [← hh, Bd.state]; rfl
  have N0 := Fr.nil n0
  refine own_start (F0 := fun o U' => ∃ v L, o = .returned v ∧ Q_sab2 Z sc oa y1 y2 q dc el ea em mr kd ke h0 n0 v U'.heap L ∧ FrameEnd s o U' L ({ frames := 1, cells := 0, slots := 0, locals := 13 } : Room).cells ({ frames := 1, cells := 0, slots := 0, locals := 13 } : Room).slots) fun F hF => ?_
  rw [own_ef_sab2 m sc]
  have hT' := hT
  obtain ⟨Sdc, Vdc, Sel, Eel, Fel, Vea, Sem, Eem, hM⟩ := hT
  refine own_st (V := s₁.setTop (mkF m 1 #[.val (.ref sc)] [(.ref sc)])) (fun _ hk => XS.aloadN X0.here hx rfl (hb hby d21_0) rfl rfl hk) ?_
  obtain ⟨T1, X1, e1, st1⟩ := getF X0 hx hZ hown (host := "") (Or.inl (hw _ (List.mem_of_getElem? (i := 161) rfl))) Via.refl e0 F_s (g := (mkF m 1 #[.val (.ref sc)] [(.ref sc)])) rfl rfl (hb hby d21_1)
  refine own_st (V := T1.setTop (mkF m 4 #[.val (.ref sc)] [(.ref oa)])) st1 ?_
  obtain ⟨cq2, kq2, q2a, q2b, q2c⟩ := isOf hZ e1 E_a
  obtain ⟨_, _, ⟨T2, L2, k2, n2⟩, -, X2, ⟨Lc2, hQ2, l2, y2, z2⟩, st2⟩ := X1.interfaceBack hx (xi := (⟨"java/util/List", "isEmpty", "()Z"⟩ : MethodName)) (y := (⟨"java/util/ImmutableCollections$List12", "isEmpty", "()Z"⟩ : MethodName)) hown (mvT hZ (hw _ (List.mem_of_getElem? (i := 168) rfl))) (mvT hZ (hw _ (List.mem_of_getElem? (i := 169) rfl))) (mvT hZ (hw _ (List.mem_of_getElem? (i := 170) rfl))) (mvT hZ (hw _ (List.mem_of_getElem? (i := 270) rfl))) (mvT hZ (hw _ (List.mem_of_getElem? (i := 271) rfl))) (mvT hZ (hw _ (List.mem_of_getElem? (i := 272) rfl))) (mvT hZ (hw _ (List.mem_of_getElem? (i := 273) rfl))) (mvT hZ (hw _ (List.mem_of_getElem? (i := 274) rfl))) (by decide) (backOf (W := 0) (rm_l12Emp l Z a0 hw [] oa h0 n0 Z0) hZ (hw _ (List.mem_of_getElem? (i := 275) rfl)) (hw _ (List.mem_of_getElem? (i := 244) rfl)) (by decide) (by decide)) q2a q2b q2c (g := (mkF m 4 #[.val (.ref sc)] [(.ref oa)])) rfl (by rw [hml]; rfl) (Steps.refl _) (argsL := []) (rest := []) (lenOf own_pd17 rfl) rfl (by show 2 * 0 + _ ≤ _; exact Nat.le_of_eq rfl) (hb hby d21_4) (fun _ _ => ⟨rfl, e1, (by decide : 0 + 0 ≤ _), (by decide : 0 + 0 ≤ _)⟩)
  dsimp only [Pt.U, Pt.locs, Pt.cells, Pt.slots] at X2 l2 y2 z2 st2 hQ2
  subst l2 y2 z2
  obtain ⟨rfl, N2q, es2⟩ := hQ2
  have N2 := Fr.app N0 N2q
  refine own_tr (V := T2.setTop (mkF m 9 #[.val (.ref sc)] [(.int (0 : Int32))])) st2 ?_
  refine own_st (V := T2.setTop (mkF m 16 #[.val (.ref sc)] [])) (fun _ hk => XS.ifYes X2.here hx rfl (pc0 := 9) (pc' := 16) rfl (hb hby d21_9) rfl ((if0 _ _).trans (teq (show (0 : Int32) = (0 : Int32) from rfl)).1) (by decide) (by decide) hk) ?_
  refine own_st (V := T2.setTop (mkF m 17 #[.val (.ref sc)] [(.ref sc)])) (fun _ hk => XS.aloadN X2.here hx rfl (hb hby d21_16) rfl rfl hk) ?_
  obtain ⟨T3, X3, e3, st3⟩ := getF X2 hx hZ hown (host := "") (Or.inl (hw _ (List.mem_of_getElem? (i := 161) rfl))) Via.refl es2 F_s (g := (mkF m 17 #[.val (.ref sc)] [(.ref sc)])) rfl rfl (hb hby d21_17)
  refine own_st (V := T3.setTop (mkF m 20 #[.val (.ref sc)] [(.ref oa)])) st3 ?_
  refine own_st (V := T3.setTop (mkF m 21 #[.val (.ref sc)] [(.ref sc), (.ref oa)])) (fun _ hk => XS.aloadN X3.here hx rfl (hb hby d21_20) rfl rfl hk) ?_
  obtain ⟨T4, X4, e4, st4⟩ := getF X3 hx hZ hown (host := "") (Or.inl (hw _ (List.mem_of_getElem? (i := 161) rfl))) Via.refl e3 F_s (g := (mkF m 21 #[.val (.ref sc)] [(.ref sc), (.ref oa)])) rfl rfl (hb hby d21_21)
  refine own_st (V := T4.setTop (mkF m 24 #[.val (.ref sc)] [(.ref oa), (.ref oa)])) st4 ?_
  obtain ⟨cq5, kq5, q5a, q5b, q5c⟩ := isOf hZ e4 E_a
  obtain ⟨_, _, ⟨T5, L5, k5, n5⟩, -, X5, ⟨Lc5, hQ5, l5, y5, z5⟩, st5⟩ := X4.interfaceBack hx (xi := (⟨"java/util/List", "size", "()I"⟩ : MethodName)) (y := (⟨"java/util/ImmutableCollections$List12", "size", "()I"⟩ : MethodName)) hown (mvT hZ (hw _ (List.mem_of_getElem? (i := 276) rfl))) (mvT hZ (hw _ (List.mem_of_getElem? (i := 277) rfl))) (mvT hZ (hw _ (List.mem_of_getElem? (i := 278) rfl))) (mvT hZ (hw _ (List.mem_of_getElem? (i := 279) rfl))) (mvT hZ (hw _ (List.mem_of_getElem? (i := 280) rfl))) (mvT hZ (hw _ (List.mem_of_getElem? (i := 281) rfl))) (mvT hZ (hw _ (List.mem_of_getElem? (i := 282) rfl))) (mvT hZ (hw _ (List.mem_of_getElem? (i := 274) rfl))) (by decide) (backOf (W := 1) (rm_sz2 l Z a0 hw [] oa y2 dc el ea em mr kd ke h0 n0 Z0 O hT' F_1 hne) hZ (hw _ (List.mem_of_getElem? (i := 283) rfl)) (hw _ (List.mem_of_getElem? (i := 244) rfl)) (by decide) (by decide)) q5a q5b q5c (g := (mkF m 24 #[.val (.ref sc)] [(.ref oa), (.ref oa)])) rfl (by rw [hml]; rfl) (Steps.refl _) (argsL := []) (rest := [(.ref oa)]) (lenOf own_pd21 rfl) rfl (by show 2 * 0 + _ ≤ _; exact Nat.le_of_eq rfl) (hb hby d21_24) (fun _ _ => ⟨rfl, e4, (by decide : 0 + 0 ≤ _), (by decide : 0 + 0 ≤ _)⟩)
  dsimp only [Pt.U, Pt.locs, Pt.cells, Pt.slots] at X5 l5 y5 z5 st5 hQ5
  subst l5 y5 z5
  obtain ⟨rfl, N5q, es5⟩ := hQ5
  have N5 := Fr.app N2 N5q
  refine own_tr (V := T5.setTop (mkF m 29 #[.val (.ref sc)] [(.int (2 : Int32)), (.ref oa)])) st5 ?_
  refine own_st (V := T5.setTop (mkF m 30 #[.val (.ref sc)] [(.int (1 : Int32)), (.int (2 : Int32)), (.ref oa)])) (fun _ hk => XS.iconst X5.here hx rfl (hb hby d21_29) hk) ?_
  refine own_st (V := T5.setTop (mkF m 31 #[.val (.ref sc)] [(.int ((2 : Int32) - (1 : Int32))), (.ref oa)])) (fun _ hk => XS.isub X5.here hx rfl (hb hby d21_30) rfl hk) ?_
  obtain ⟨cq6, kq6, q6a, q6b, q6c⟩ := isOf hZ es5 E_a
  obtain ⟨_, _, ⟨T6, L6, k6, n6⟩, -, X6, ⟨Lc6, hQ6, l6, y6, z6⟩, st6⟩ := X5.interfaceBack hx (xi := (⟨"java/util/List", "get", "(I)Ljava/lang/Object;"⟩ : MethodName)) (y := (⟨"java/util/ImmutableCollections$List12", "get", "(I)Ljava/lang/Object;"⟩ : MethodName)) hown (mvT hZ (hw _ (List.mem_of_getElem? (i := 285) rfl))) (mvT hZ (hw _ (List.mem_of_getElem? (i := 286) rfl))) (mvT hZ (hw _ (List.mem_of_getElem? (i := 287) rfl))) (mvT hZ (hw _ (List.mem_of_getElem? (i := 288) rfl))) (mvT hZ (hw _ (List.mem_of_getElem? (i := 289) rfl))) (mvT hZ (hw _ (List.mem_of_getElem? (i := 290) rfl))) (mvT hZ (hw _ (List.mem_of_getElem? (i := 291) rfl))) (mvT hZ (hw _ (List.mem_of_getElem? (i := 274) rfl))) (by decide) (backOf (W := 0) (rm_get2 l Z a0 hw [] oa y2 _ dc el ea em mr kd ke h0 n0 Z0 O hT' F_1 hne rfl) hZ (hw _ (List.mem_of_getElem? (i := 292) rfl)) (hw _ (List.mem_of_getElem? (i := 244) rfl)) (by decide) (by decide)) q6a q6b q6c (g := (mkF m 31 #[.val (.ref sc)] [(.int ((2 : Int32) - (1 : Int32))), (.ref oa)])) rfl (by rw [hml]; rfl) (Steps.refl _) (argsL := [(.int ((2 : Int32) - (1 : Int32)))]) (rest := []) (lenOf own_pd22 rfl) rfl (by show 2 * 0 + _ ≤ _; exact Nat.le_of_eq rfl) (hb hby d21_31) (fun _ _ => ⟨rfl, es5, (by decide : 0 + 0 ≤ _), (by decide : 0 + 0 ≤ _)⟩)
  dsimp only [Pt.U, Pt.locs, Pt.cells, Pt.slots] at X6 l6 y6 z6 st6 hQ6
  subst l6 y6 z6
  obtain ⟨rfl, N6q, es6⟩ := hQ6
  have N6 := Fr.app N5 N6q
  refine own_tr (V := T6.setTop (mkF m 36 #[.val (.ref sc)] [(.ref y2)])) st6 ?_
  obtain ⟨T7, X7, e7, st7⟩ := castY X6 hx hZ hown (hw _ (List.mem_of_getElem? (i := 293) rfl)) es6 (Ins.self E_y) (g := (mkF m 36 #[.val (.ref sc)] [(.ref y2)])) rfl rfl (hb hby d21_36)
  refine own_st (V := T7.setTop (mkF m 39 #[.val (.ref sc)] [(.ref y2)])) st7 ?_
  obtain ⟨cq8, kq8, q8a, q8b, q8c⟩ := isOf hZ e7 E_y
  obtain ⟨_, _, ⟨T8, L8, k8, n8⟩, -, X8, ⟨Lc8, hQ8, l8, y8, z8⟩, st8⟩ := X7.virtualBack hx (y := (⟨"com/example/vestline/vestline/service/SetAside", "before", "()Ljava/time/LocalDate;"⟩ : MethodName)) (z := (⟨"com/example/vestline/vestline/service/SetAside", "before", "()Ljava/time/LocalDate;"⟩ : MethodName)) hown (mvT hZ (hw _ (List.mem_of_getElem? (i := 295) rfl))) (mvT hZ (hw _ (List.mem_of_getElem? (i := 296) rfl))) (notFace_of_selects (args := #[]) (mvT hZ (hw _ (List.mem_of_getElem? (i := 298) rfl)))) (mvT hZ (hw _ (List.mem_of_getElem? (i := 298) rfl))) (mvT hZ (hw _ (List.mem_of_getElem? (i := 297) rfl))) (by decide) (backOf (W := 0) (rm_before l Z a0 hw [] y2 q h0 n0 Z0 F_b) hZ (hw _ (List.mem_of_getElem? (i := 299) rfl)) (hw _ (List.mem_of_getElem? (i := 70) rfl)) (by decide) (by decide)) q8a q8c (g := (mkF m 39 #[.val (.ref sc)] [(.ref y2)])) rfl (by rw [hml]; rfl) (Steps.refl _) (argsL := []) (rest := []) (lenOf own_pd23 rfl) rfl (by show 2 * 0 + _ ≤ _; exact Nat.le_of_eq rfl) (hb hby d21_39) (fun _ _ => ⟨rfl, e7, (by decide : 0 + 0 ≤ _), (by decide : 0 + 0 ≤ _)⟩)
  dsimp only [Pt.U, Pt.locs, Pt.cells, Pt.slots] at X8 l8 y8 z8 st8 hQ8
  subst l8 y8 z8
  obtain ⟨rfl, N8q, es8⟩ := hQ8
  have N8 := Fr.app N6 N8q
  refine own_tr (V := T8.setTop (mkF m 42 #[.val (.ref sc)] [(.ref q)])) st8 ?_
  exact own_retA X8 hx Bd.notSynchronized Bd.returns rfl rfl (hb hby d21_42) (by decide) (by decide) (fun U hU hE => hF _ _ ⟨_, _, rfl, (by rw [hU, es8]; exact ⟨rfl, N8, rfl⟩), hE⟩)
theorem own_m3 (x : Int32) : (x &&& (2147483647 : Int32)) % (3 : Int32) = 0 ∨ (x &&& (2147483647 : Int32)) % (3 : Int32) = 1 ∨ (x &&& (2147483647 : Int32)) % (3 : Int32) = 2 := by
  have h1 := c_and x 2147483647 (by decide)
  have h2 := (c_irem (x &&& 2147483647) 3 3 (by decide)).1 h1.1
  have h3 : ((x &&& 2147483647) % 3).toInt = 0 ∨ ((x &&& 2147483647) % 3).toInt = 1 ∨ ((x &&& 2147483647) % 3).toInt = 2 := by omega
  rcases h3 with h | h | h
  · exact Or.inl (Int32.toInt_inj.mp h)
  · exact Or.inr (Or.inl (Int32.toInt_inj.mp h))
  · exact Or.inr (Or.inr (Int32.toInt_inj.mp h))
theorem own_r1 (x : Int32) : ¬ x.toInt64 < (-365243219162 : Int64) ∧ ¬ (365241780471 : Int64) < x.toInt64 := by
  have h1 := c_i2l x
  have h2 := Int32.le_toInt x
  have h3 := Int32.toInt_lt x
  rw [Int64.lt_iff_toInt_lt, Int64.lt_iff_toInt_lt, h1]
  have e1 : ((-365243219162 : Int64)).toInt = -365243219162 := by decide
  have e2 : ((365241780471 : Int64)).toInt = 365241780471 := by decide
  rw [e1, e2]
  omega
theorem own_r2 (x y : Int32) : ¬ ((x.toInt64 + (1 : Int64)) + (y &&& (65535 : Int32)).toInt64) < (-365243219162 : Int64) ∧ ¬ (365241780471 : Int64) < ((x.toInt64 + (1 : Int64)) + (y &&& (65535 : Int32)).toInt64) := by
  have h1 := c_i2l x
  have h2 := Int32.le_toInt x
  have h3 := Int32.toInt_lt x
  have g1 := c_i2l (y &&& (65535 : Int32))
  have g2 := c_and y 65535 (by decide)
  have f1 := c_ladd x.toInt64 1
  have f2 := c_ladd (x.toInt64 + (1 : Int64)) (y &&& (65535 : Int32)).toInt64
  have b1 := Int64.le_toInt (x.toInt64 + (1 : Int64))
  have b2 := Int64.toInt_lt (x.toInt64 + (1 : Int64))
  have b3 := Int64.le_toInt ((x.toInt64 + (1 : Int64)) + (y &&& (65535 : Int32)).toInt64)
  have b4 := Int64.toInt_lt ((x.toInt64 + (1 : Int64)) + (y &&& (65535 : Int32)).toInt64)
  have e0 : (1 : Int64).toInt = 1 := by decide
  have e3 : (65535 : Int32).toInt = 65535 := by decide
  rw [Int64.lt_iff_toInt_lt, Int64.lt_iff_toInt_lt]
  have e1 : ((-365243219162 : Int64)).toInt = -365243219162 := by decide
  have e2 : ((365241780471 : Int64)).toInt = 365241780471 := by decide
  rw [e1, e2]
  rw [e0] at f1
  rw [e3] at g2
  omega
theorem own_pd24 : parseMethodDescriptor "(J)Ljava/time/LocalDate;" = some ⟨[.long], some (.object "java/time/LocalDate")⟩ := by decide +kernel
theorem own_pd25 : parseMethodDescriptor "(Ljava/time/LocalDate;Ljava/time/LocalDate;)V" = some ⟨[(.object "java/time/LocalDate"), (.object "java/time/LocalDate")], none⟩ := by decide +kernel
theorem own_pd26 : parseMethodDescriptor "(Ljava/util/List;ILjava/util/List;)V" = some ⟨[(.object "java/util/List"), .int, (.object "java/util/List")], none⟩ := by decide +kernel
theorem own_pd27 : parseMethodDescriptor "(Ljava/lang/Object;)Z" = some ⟨[(.object "java/lang/Object")], some .boolean⟩ := by decide +kernel
theorem own_pn_com_example_vestline_vestline_service_ServiceCountSetAsideBeforePinLaw : plainName "com/example/vestline/vestline/service/ServiceCountSetAsideBeforePinLaw" = true := by first | (simp [plainName, overriddenIn]; done) | decide +kernel
theorem own_ef_law (m : MethodId) (x0 : Int32) (x1 : Int32) (x2 : Int32) (x3 : Int32) (x4 : Int32) : entryFrame m #[(.int x0), (.int x1), (.int x2), (.int x3), (.int x4)] maxLocals = mkF m 0 #[.val (.int x0), .val (.int x1), .val (.int x2), .val (.int x3), .val (.int x4), .unset, .unset, .unset, .unset, .unset, .unset, .unset, .unset, .unset, .unset] [] := by first | (simp [entryFrame, mkF, argsToLocals, Value.category, maxLocals]; done) | rfl
def Q_law (Z : State) (kk aa bb cc yy : Int32) (fd rg : Addr) (dc el ea em mr : Addr) (kd ke : ClassId) (h0 : Heap) (n0 : Nat) (v : Option Value) (h : Heap) (L : List Loc) : Prop := v = some (.int 1) ∧ Fr n0 L
set_option maxRecDepth 65536 in
set_option maxHeartbeats 40000000 in
theorem rm_law (l : Launch) (Z : State) (a0 : Array Value) (hw : ∀ d ∈ tables_1, d.before a0 Z = true) (ws : List Jvm.Cond) (kk aa bb cc yy : Int32) (fd rg : Addr) (dc el ea em mr : Addr) (kd ke : ClassId) (h0 : Heap) (n0 : Nat) (Z0 : n0 ≤ h0.size) (O : Old Z n0 h0) (hT : own_ST Z dc el ea em mr kd ke) (hE : own_EP Z fd rg) :
    MetFree l x (head1 (Jvm.Cond.code x code maxLocals ret :: ws) room_1) (fun a U => a = #[(.int kk), (.int aa), (.int bb), (.int cc), (.int yy)] ∧ Z.Warmed39 U.vm ∧ U.heap = h0) (fun _ _ _ _ _ => True) (fun _ U o U' => ∃ v L, o = .returned v ∧ Q_law Z kk aa bb cc yy fd rg dc el ea em mr kd ke h0 n0 v U'.heap L ∧ ReturnedEndW U o U' L 40 2240) := by
  refine MetFree.of_bodySF (plainFor_of_name own_pn_com_example_vestline_vestline_service_ServiceCountSetAsideBeforePinLaw) hisR ?_
  intro p e s m args below meth c s₁ Bd hml0 hP hK
  obtain ⟨rfl, hZ, hh⟩ := hP
  have hx := Bd.exec
  have hby := Bd.bytes
  have hml : c.maxLocals = 15 := hml0
  have hown : s.vm.findClass "com/example/vestline/vestline/service/ServiceCountSetAsideBeforePinLaw" = some m.cls := findClass_of_methodNamed Bd.named
  have hnm := (name_of_methodNamed Bd.named Bd.method).1
  have X0 : Stand p l e room_1 (s.setVm s.vm) m #[(.int kk), (.int aa), (.int bb), (.int cc), (.int yy)] below meth c s₁ [] 0 0 := Stand.of_body Bd
  have e0 : s₁.heap = h0 := by rw [← hh, Bd.state]; rfl
  have N0 := Fr.nil n0
  have hZ : Z.Warmed39 (s.setVm s.vm).vm := hZ
  have hown : (s.setVm s.vm).vm.findClass "com/example/vestline/vestline/service/ServiceCountSetAsideBeforePinLaw" = some m.cls := hown
  have hS0 := own_since s h0.size
  have hk0 : h0.size ≤ h0.size := Nat.le_refl _
  refine own_start (F0 := fun o U' => ∃ v L, o = .returned v ∧ Q_law Z kk aa bb cc yy fd rg dc el ea em mr kd ke h0 n0 v U'.heap L ∧ ReturnedEndW s o U' L 40 2240) fun F hF => ?_
  rw [own_ef_law m kk aa bb cc yy]
  have hT' := hT
  obtain ⟨Sdc, Vdc, Sel, Eel, Fel, Vea, Sem, Eem, hM⟩ := hT
  obtain ⟨nn, hnn⟩ : ∃ z, z = ((kk &&& (2147483647 : Int32)) % (3 : Int32)) := ⟨_, rfl⟩
  have hn3 : nn = 0 ∨ nn = 1 ∨ nn = 2 := by rw [hnn]; exact own_m3 kk
  have J22 : ∀ (rv : Int32), own_G p e below F (s₁.setTop (mkF m 22 #[.val (.int kk), .val (.int aa), .val (.int bb), .val (.int cc), .val (.int yy), .val (.int nn), .unset, .unset, .unset, .unset, .unset, .unset, .unset, .unset, .unset] [(.int rv)])) := by
    intro rv
    refine own_st (V := s₁.setTop (mkF m 24 #[.val (.int kk), .val (.int aa), .val (.int bb), .val (.int cc), .val (.int yy), .val (.int nn), .val (.int rv), .unset, .unset, .unset, .unset, .unset, .unset, .unset, .unset] [])) (fun _ hk => XS.istore X0.here hx rfl (hb hby at_22) rfl  (l' := #[.val (.int kk), .val (.int aa), .val (.int bb), .val (.int cc), .val (.int yy), .val (.int nn), .val (.int rv), .unset, .unset, .unset, .unset, .unset, .unset, .unset, .unset]) rfl hk) ?_
    refine own_st (V := s₁.setTop (mkF m 25 #[.val (.int kk), .val (.int aa), .val (.int bb), .val (.int cc), .val (.int yy), .val (.int nn), .val (.int rv), .unset, .unset, .unset, .unset, .unset, .unset, .unset, .unset] [(.int aa)])) (fun _ hk => XS.iloadN X0.here hx rfl (hb hby at_24) rfl  hk) ?_
    refine own_st (V := s₁.setTop (mkF m 26 #[.val (.int kk), .val (.int aa), .val (.int bb), .val (.int cc), .val (.int yy), .val (.int nn), .val (.int rv), .unset, .unset, .unset, .unset, .unset, .unset, .unset, .unset] [(.long (aa.toInt64))])) (fun _ hk => XS.i2l X0.here hx rfl (hb hby at_25) rfl hk) ?_
    obtain ⟨_, _, ⟨T1, L1, k1, n1⟩, -, X1, ⟨Lc1, hQ1, l1, y1, z1⟩, st1⟩ := Jvm.LawKit.callS X0 hx (y := (⟨"java/time/LocalDate", "ofEpochDay", "(J)Ljava/time/LocalDate;"⟩ : MethodName)) hown (mvT hZ (hw _ (List.mem_of_getElem? (i := 1) rfl))) (mvT hZ (hw _ (List.mem_of_getElem? (i := 2) rfl))) (mvT hZ (hw _ (List.mem_of_getElem? (i := 3) rfl))) (mvT hZ (hw _ (List.mem_of_getElem? (i := 4) rfl))) (by decide) (backOf (W := 0) (rm_ofEpoch l Z a0 hw [] aa.toInt64 fd rg h0 n0 Z0 O hE (own_r1 aa).1 (own_r1 aa).2) hZ (hw _ (List.mem_of_getElem? (i := 4) rfl)) (hw _ (List.mem_of_getElem? (i := 3) rfl)) (by decide) (by decide)) (g := (mkF m 26 #[.val (.int kk), .val (.int aa), .val (.int bb), .val (.int cc), .val (.int yy), .val (.int nn), .val (.int rv), .unset, .unset, .unset, .unset, .unset, .unset, .unset, .unset] [(.long (aa.toInt64))])) rfl (by rw [hml]; rfl) (argsL := [(.long (aa.toInt64))]) (rest := []) (lenOf own_pd24 rfl) rfl (by show 2 * 0 + _ ≤ _; exact Nat.le_of_eq rfl) (hb hby at_26) (fun _ _ => ⟨rfl, e0, (by decide : 0 + 1 ≤ _), (by decide : 0 + 3 ≤ _)⟩)
    dsimp only [Pt.U, Pt.locs, Pt.cells, Pt.slots] at X1 l1 y1 z1 st1 hQ1
    subst l1 y1 z1
    obtain ⟨r0, rfl, N1q, Kr0, szr0, E_r0⟩ := hQ1
    have N1 := Fr.app N0 N1q
    refine own_st (V := T1.setTop (mkF m 29 #[.val (.int kk), .val (.int aa), .val (.int bb), .val (.int cc), .val (.int yy), .val (.int nn), .val (.int rv), .unset, .unset, .unset, .unset, .unset, .unset, .unset, .unset] [(.ref r0)])) st1 ?_
    have Z0 : n0 ≤ T1.heap.size := Nat.le_trans Z0 Kr0.1
    have hk0 := Nat.le_trans hk0 Kr0.1
    have O := O.keep Kr0 all0
    refine own_st (V := T1.setTop (mkF m 31 #[.val (.int kk), .val (.int aa), .val (.int bb), .val (.int cc), .val (.int yy), .val (.int nn), .val (.int rv), .val (.ref r0), .unset, .unset, .unset, .unset, .unset, .unset, .unset] [])) (fun _ hk => XS.astore X1.here hx rfl (hb hby at_29) rfl rfl (l' := #[.val (.int kk), .val (.int aa), .val (.int bb), .val (.int cc), .val (.int yy), .val (.int nn), .val (.int rv), .val (.ref r0), .unset, .unset, .unset, .unset, .unset, .unset, .unset]) rfl hk) ?_
    refine own_st (V := T1.setTop (mkF m 32 #[.val (.int kk), .val (.int aa), .val (.int bb), .val (.int cc), .val (.int yy), .val (.int nn), .val (.int rv), .val (.ref r0), .unset, .unset, .unset, .unset, .unset, .unset, .unset] [(.int aa)])) (fun _ hk => XS.iloadN X1.here hx rfl (hb hby at_31) rfl  hk) ?_
    refine own_st (V := T1.setTop (mkF m 33 #[.val (.int kk), .val (.int aa), .val (.int bb), .val (.int cc), .val (.int yy), .val (.int nn), .val (.int rv), .val (.ref r0), .unset, .unset, .unset, .unset, .unset, .unset, .unset] [(.long (aa.toInt64))])) (fun _ hk => XS.i2l X1.here hx rfl (hb hby at_32) rfl hk) ?_
    refine own_st (V := T1.setTop (mkF m 34 #[.val (.int kk), .val (.int aa), .val (.int bb), .val (.int cc), .val (.int yy), .val (.int nn), .val (.int rv), .val (.ref r0), .unset, .unset, .unset, .unset, .unset, .unset, .unset] [(.long (1 : Int64)), (.long (aa.toInt64))])) (fun _ hk => XS.lconst X1.here hx rfl (hb hby at_33) hk) ?_
    refine own_st (V := T1.setTop (mkF m 35 #[.val (.int kk), .val (.int aa), .val (.int bb), .val (.int cc), .val (.int yy), .val (.int nn), .val (.int rv), .val (.ref r0), .unset, .unset, .unset, .unset, .unset, .unset, .unset] [(.long ((aa.toInt64) + (1 : Int64)))])) (fun _ hk => XS.ladd X1.here hx rfl (hb hby at_34) rfl hk) ?_
    refine own_st (V := T1.setTop (mkF m 36 #[.val (.int kk), .val (.int aa), .val (.int bb), .val (.int cc), .val (.int yy), .val (.int nn), .val (.int rv), .val (.ref r0), .unset, .unset, .unset, .unset, .unset, .unset, .unset] [(.int bb), (.long ((aa.toInt64) + (1 : Int64)))])) (fun _ hk => XS.iloadN X1.here hx rfl (hb hby at_35) rfl  hk) ?_
    refine own_st (V := T1.setTop (mkF m 38 #[.val (.int kk), .val (.int aa), .val (.int bb), .val (.int cc), .val (.int yy), .val (.int nn), .val (.int rv), .val (.ref r0), .unset, .unset, .unset, .unset, .unset, .unset, .unset] [(.int (65535 : Int32)), (.int bb), (.long ((aa.toInt64) + (1 : Int64)))])) (X1.ldcInt hx hown (mvT hZ (hw _ (List.mem_of_getElem? (i := 67) rfl))) (g := (mkF m 36 #[.val (.int kk), .val (.int aa), .val (.int bb), .val (.int cc), .val (.int yy), .val (.int nn), .val (.int rv), .val (.ref r0), .unset, .unset, .unset, .unset, .unset, .unset, .unset] [(.int bb), (.long ((aa.toInt64) + (1 : Int64)))])) rfl (hb hby at_36)) ?_
    refine own_st (V := T1.setTop (mkF m 39 #[.val (.int kk), .val (.int aa), .val (.int bb), .val (.int cc), .val (.int yy), .val (.int nn), .val (.int rv), .val (.ref r0), .unset, .unset, .unset, .unset, .unset, .unset, .unset] [(.int (bb &&& (65535 : Int32))), (.long ((aa.toInt64) + (1 : Int64)))])) (fun _ hk => XS.iand X1.here hx rfl (hb hby at_38) rfl hk) ?_
    refine own_st (V := T1.setTop (mkF m 40 #[.val (.int kk), .val (.int aa), .val (.int bb), .val (.int cc), .val (.int yy), .val (.int nn), .val (.int rv), .val (.ref r0), .unset, .unset, .unset, .unset, .unset, .unset, .unset] [(.long ((bb &&& (65535 : Int32)).toInt64)), (.long ((aa.toInt64) + (1 : Int64)))])) (fun _ hk => XS.i2l X1.here hx rfl (hb hby at_39) rfl hk) ?_
    refine own_st (V := T1.setTop (mkF m 41 #[.val (.int kk), .val (.int aa), .val (.int bb), .val (.int cc), .val (.int yy), .val (.int nn), .val (.int rv), .val (.ref r0), .unset, .unset, .unset, .unset, .unset, .unset, .unset] [(.long (((aa.toInt64) + (1 : Int64)) + ((bb &&& (65535 : Int32)).toInt64)))])) (fun _ hk => XS.ladd X1.here hx rfl (hb hby at_40) rfl hk) ?_
    obtain ⟨_, _, ⟨T2, L2, k2, n2⟩, -, X2, ⟨Lc2, hQ2, l2, y2, z2⟩, st2⟩ := Jvm.LawKit.callS X1 hx (y := (⟨"java/time/LocalDate", "ofEpochDay", "(J)Ljava/time/LocalDate;"⟩ : MethodName)) hown (mvT hZ (hw _ (List.mem_of_getElem? (i := 1) rfl))) (mvT hZ (hw _ (List.mem_of_getElem? (i := 2) rfl))) (mvT hZ (hw _ (List.mem_of_getElem? (i := 3) rfl))) (mvT hZ (hw _ (List.mem_of_getElem? (i := 4) rfl))) (by decide) (backOf (W := 0) (rm_ofEpoch l Z a0 hw [] _ fd rg T1.heap n0 Z0 O hE (own_r2 aa bb).1 (own_r2 aa bb).2) hZ (hw _ (List.mem_of_getElem? (i := 4) rfl)) (hw _ (List.mem_of_getElem? (i := 3) rfl)) (by decide) (by decide)) (g := (mkF m 41 #[.val (.int kk), .val (.int aa), .val (.int bb), .val (.int cc), .val (.int yy), .val (.int nn), .val (.int rv), .val (.ref r0), .unset, .unset, .unset, .unset, .unset, .unset, .unset] [(.long (((aa.toInt64) + (1 : Int64)) + ((bb &&& (65535 : Int32)).toInt64)))])) rfl (by rw [hml]; rfl) (argsL := [(.long (((aa.toInt64) + (1 : Int64)) + ((bb &&& (65535 : Int32)).toInt64)))]) (rest := []) (lenOf own_pd24 rfl) rfl (by show 2 * 0 + _ ≤ _; exact Nat.le_of_eq rfl) (hb hby at_41) (fun _ _ => ⟨rfl, rfl, (by decide : 1 + 1 ≤ _), (by decide : 3 + 3 ≤ _)⟩)
    dsimp only [Pt.U, Pt.locs, Pt.cells, Pt.slots] at X2 l2 y2 z2 st2 hQ2
    subst l2 y2 z2
    obtain ⟨r1, rfl, N2q, Kr1, szr1, E_r1⟩ := hQ2
    have N2 := Fr.app N1 N2q
    refine own_st (V := T2.setTop (mkF m 44 #[.val (.int kk), .val (.int aa), .val (.int bb), .val (.int cc), .val (.int yy), .val (.int nn), .val (.int rv), .val (.ref r0), .unset, .unset, .unset, .unset, .unset, .unset, .unset] [(.ref r1)])) st2 ?_
    have E_r0 := E_r0.keep Kr1
    have Z0 : n0 ≤ T2.heap.size := Nat.le_trans Z0 Kr1.1
    have hk0 := Nat.le_trans hk0 Kr1.1
    have O := O.keep Kr1 all0
    refine own_st (V := T2.setTop (mkF m 46 #[.val (.int kk), .val (.int aa), .val (.int bb), .val (.int cc), .val (.int yy), .val (.int nn), .val (.int rv), .val (.ref r0), .val (.ref r1), .unset, .unset, .unset, .unset, .unset, .unset] [])) (fun _ hk => XS.astore X2.here hx rfl (hb hby at_44) rfl rfl (l' := #[.val (.int kk), .val (.int aa), .val (.int bb), .val (.int cc), .val (.int yy), .val (.int nn), .val (.int rv), .val (.ref r0), .val (.ref r1), .unset, .unset, .unset, .unset, .unset, .unset]) rfl hk) ?_
    refine own_st (V := T2.setTop (mkF m 47 #[.val (.int kk), .val (.int aa), .val (.int bb), .val (.int cc), .val (.int yy), .val (.int nn), .val (.int rv), .val (.ref r0), .val (.ref r1), .unset, .unset, .unset, .unset, .unset, .unset] [(.int cc)])) (fun _ hk => XS.iloadN X2.here hx rfl (hb hby at_46) rfl  hk) ?_
    refine own_st (V := T2.setTop (mkF m 48 #[.val (.int kk), .val (.int aa), .val (.int bb), .val (.int cc), .val (.int yy), .val (.int nn), .val (.int rv), .val (.ref r0), .val (.ref r1), .unset, .unset, .unset, .unset, .unset, .unset] [(.long (cc.toInt64))])) (fun _ hk => XS.i2l X2.here hx rfl (hb hby at_47) rfl hk) ?_
    obtain ⟨_, _, ⟨T3, L3, k3, n3⟩, -, X3, ⟨Lc3, hQ3, l3, y3, z3⟩, st3⟩ := Jvm.LawKit.callS X2 hx (y := (⟨"java/time/LocalDate", "ofEpochDay", "(J)Ljava/time/LocalDate;"⟩ : MethodName)) hown (mvT hZ (hw _ (List.mem_of_getElem? (i := 1) rfl))) (mvT hZ (hw _ (List.mem_of_getElem? (i := 2) rfl))) (mvT hZ (hw _ (List.mem_of_getElem? (i := 3) rfl))) (mvT hZ (hw _ (List.mem_of_getElem? (i := 4) rfl))) (by decide) (backOf (W := 0) (rm_ofEpoch l Z a0 hw [] cc.toInt64 fd rg T2.heap n0 Z0 O hE (own_r1 cc).1 (own_r1 cc).2) hZ (hw _ (List.mem_of_getElem? (i := 4) rfl)) (hw _ (List.mem_of_getElem? (i := 3) rfl)) (by decide) (by decide)) (g := (mkF m 48 #[.val (.int kk), .val (.int aa), .val (.int bb), .val (.int cc), .val (.int yy), .val (.int nn), .val (.int rv), .val (.ref r0), .val (.ref r1), .unset, .unset, .unset, .unset, .unset, .unset] [(.long (cc.toInt64))])) rfl (by rw [hml]; rfl) (argsL := [(.long (cc.toInt64))]) (rest := []) (lenOf own_pd24 rfl) rfl (by show 2 * 0 + _ ≤ _; exact Nat.le_of_eq rfl) (hb hby at_48) (fun _ _ => ⟨rfl, rfl, (by decide : 2 + 1 ≤ _), (by decide : 6 + 3 ≤ _)⟩)
    dsimp only [Pt.U, Pt.locs, Pt.cells, Pt.slots] at X3 l3 y3 z3 st3 hQ3
    subst l3 y3 z3
    obtain ⟨r2, rfl, N3q, Kr2, szr2, E_r2⟩ := hQ3
    have N3 := Fr.app N2 N3q
    refine own_st (V := T3.setTop (mkF m 51 #[.val (.int kk), .val (.int aa), .val (.int bb), .val (.int cc), .val (.int yy), .val (.int nn), .val (.int rv), .val (.ref r0), .val (.ref r1), .unset, .unset, .unset, .unset, .unset, .unset] [(.ref r2)])) st3 ?_
    have E_r0 := E_r0.keep Kr2
    have E_r1 := E_r1.keep Kr2
    have Z0 : n0 ≤ T3.heap.size := Nat.le_trans Z0 Kr2.1
    have hk0 := Nat.le_trans hk0 Kr2.1
    have O := O.keep Kr2 all0
    refine own_st (V := T3.setTop (mkF m 53 #[.val (.int kk), .val (.int aa), .val (.int bb), .val (.int cc), .val (.int yy), .val (.int nn), .val (.int rv), .val (.ref r0), .val (.ref r1), .val (.ref r2), .unset, .unset, .unset, .unset, .unset] [])) (fun _ hk => XS.astore X3.here hx rfl (hb hby at_51) rfl rfl (l' := #[.val (.int kk), .val (.int aa), .val (.int bb), .val (.int cc), .val (.int yy), .val (.int nn), .val (.int rv), .val (.ref r0), .val (.ref r1), .val (.ref r2), .unset, .unset, .unset, .unset, .unset]) rfl hk) ?_
    obtain ⟨T4, h4, X4, e4, E4, A4, D4, -, st4⟩ := newO X3 hx hZ hown (hw _ (List.mem_of_getElem? (i := 68) rfl)) (hw _ (List.mem_of_getElem? (i := 69) rfl)) (hw _ (List.mem_of_getElem? (i := 70) rfl)) rfl (g := (mkF m 53 #[.val (.int kk), .val (.int aa), .val (.int bb), .val (.int cc), .val (.int yy), .val (.int nn), .val (.int rv), .val (.ref r0), .val (.ref r1), .val (.ref r2), .unset, .unset, .unset, .unset, .unset] [])) rfl (hb hby at_53) (by decide) (by decide)
    obtain ⟨b4, g4⟩ : ∃ z, z = T3.heap.size := ⟨_, rfl⟩
    rw [← g4] at A4 D4 st4
    have ne_r0_b4 : r0 ≠ b4 := Nat.ne_of_lt (Nat.lt_of_lt_of_le E_r0.lt (Nat.le_of_eq g4.symm))
    have ne_b4_r0 : b4 ≠ r0 := Ne.symm ne_r0_b4
    have ne_r1_b4 : r1 ≠ b4 := Nat.ne_of_lt (Nat.lt_of_lt_of_le E_r1.lt (Nat.le_of_eq g4.symm))
    have ne_b4_r1 : b4 ≠ r1 := Ne.symm ne_r1_b4
    have ne_r2_b4 : r2 ≠ b4 := Nat.ne_of_lt (Nat.lt_of_lt_of_le E_r2.lt (Nat.le_of_eq g4.symm))
    have ne_b4_r2 : b4 ≠ r2 := Ne.symm ne_r2_b4
    have g_b4 : n0 ≤ b4 := Nat.le_trans Z0 (Nat.le_of_eq g4.symm)
    have E_r0 := E_r0.ext E4
    have E_r1 := E_r1.ext E4
    have E_r2 := E_r2.ext E4
    have O := O.ext E4
    have Z0 : n0 ≤ h4.size := Nat.le_trans Z0 E4.1
    have hk0 := Nat.le_trans hk0 E4.1
    have E_b4 := A4
    have F_before_b4 : Fld Z h4 b4 "com/example/vestline/vestline/service/SetAside" "before" "Ljava/time/LocalDate;" .null := D4 (Or.inr (hw _ (List.mem_of_getElem? (i := 94) rfl))) (ty := (.object "java/time/LocalDate")) (by decide)
    have F_on_b4 : Fld Z h4 b4 "com/example/vestline/vestline/service/SetAside" "on" "Ljava/time/LocalDate;" .null := D4 (Or.inr (hw _ (List.mem_of_getElem? (i := 96) rfl))) (ty := (.object "java/time/LocalDate")) (by decide)
    refine own_st (V := T4.setTop (mkF m 56 #[.val (.int kk), .val (.int aa), .val (.int bb), .val (.int cc), .val (.int yy), .val (.int nn), .val (.int rv), .val (.ref r0), .val (.ref r1), .val (.ref r2), .unset, .unset, .unset, .unset, .unset] [(.ref b4)])) st4 ?_
    refine own_st (V := T4.setTop (mkF m 57 #[.val (.int kk), .val (.int aa), .val (.int bb), .val (.int cc), .val (.int yy), .val (.int nn), .val (.int rv), .val (.ref r0), .val (.ref r1), .val (.ref r2), .unset, .unset, .unset, .unset, .unset] [(.ref b4), (.ref b4)])) (fun _ hk => XS.dup X4.here hx rfl (hb hby at_56) rfl rfl hk) ?_
    refine own_st (V := T4.setTop (mkF m 59 #[.val (.int kk), .val (.int aa), .val (.int bb), .val (.int cc), .val (.int yy), .val (.int nn), .val (.int rv), .val (.ref r0), .val (.ref r1), .val (.ref r2), .unset, .unset, .unset, .unset, .unset] [(.ref r0), (.ref b4), (.ref b4)])) (fun _ hk => XS.aload X4.here hx rfl (hb hby at_57) rfl rfl hk) ?_
    refine own_st (V := T4.setTop (mkF m 61 #[.val (.int kk), .val (.int aa), .val (.int bb), .val (.int cc), .val (.int yy), .val (.int nn), .val (.int rv), .val (.ref r0), .val (.ref r1), .val (.ref r2), .unset, .unset, .unset, .unset, .unset] [(.ref r2), (.ref r0), (.ref b4), (.ref b4)])) (fun _ hk => XS.aload X4.here hx rfl (hb hby at_59) rfl rfl hk) ?_
    obtain ⟨_, _, ⟨T5, L5, k5, n5⟩, -, X5, hSn5, hgr5, ⟨Lc5, hQ5, l5, y5, z5⟩, st5⟩ := X4.specialBackS hx (y := (⟨"com/example/vestline/vestline/service/SetAside", "<init>", "(Ljava/time/LocalDate;Ljava/time/LocalDate;)V"⟩ : MethodName)) rfl hown (mvT hZ (hw _ (List.mem_of_getElem? (i := 71) rfl))) (mvT hZ (hw _ (List.mem_of_getElem? (i := 72) rfl))) (mvT hZ (hw _ (List.mem_of_getElem? (i := 73) rfl))) (by decide) (backOfS (W := 1) (rm_saInit l Z a0 hw [] b4 r0 r2 _ _ h4 n0 Z0 E_b4 F_before_b4 F_on_b4 g_b4) hZ (hw _ (List.mem_of_getElem? (i := 73) rfl)) (hw _ (List.mem_of_getElem? (i := 70) rfl)) (by decide) (by decide)) (g := (mkF m 61 #[.val (.int kk), .val (.int aa), .val (.int bb), .val (.int cc), .val (.int yy), .val (.int nn), .val (.int rv), .val (.ref r0), .val (.ref r1), .val (.ref r2), .unset, .unset, .unset, .unset, .unset] [(.ref r2), (.ref r0), (.ref b4), (.ref b4)])) rfl (by rw [hml]; rfl) (Steps.refl _) (a := b4) (argsL := [(.ref r0), (.ref r2)]) (rest := [(.ref b4)]) (lenOf own_pd25 rfl) rfl (by show 2 * 0 + _ ≤ _; exact Nat.le_of_eq rfl) (hb hby at_61) (fun _ _ => ⟨rfl, e4, (by decide : 4 + 4 ≤ _), (by decide : 11 + 40 ≤ _)⟩)
    dsimp only [Pt.U, Pt.locs, Pt.cells, Pt.slots] at X5 l5 y5 z5 st5 hQ5 hSn5 hgr5
    subst l5 y5 z5
    obtain ⟨rfl, N5q, Kc, B_b4⟩ := hQ5
    have N5 := Fr.app N3 N5q
    obtain ⟨Xr5, hSr5, hZr5, hownr5⟩ := rebS hS0 (by rw [e4]; exact hk0 : _ ≤ T4.heap.size) X5 hSn5 hgr5 hZ hown
    refine own_tr (V := T5.setTop (mkF m 64 #[.val (.int kk), .val (.int aa), .val (.int bb), .val (.int cc), .val (.int yy), .val (.int nn), .val (.int rv), .val (.ref r0), .val (.ref r1), .val (.ref r2), .unset, .unset, .unset, .unset, .unset] [(.ref b4)])) st5 ?_
    have hkr5 : T5.heap.size ≤ T5.heap.size := Nat.le_refl _
    have E_r0 := E_r0.keep Kc
    have E_r1 := E_r1.keep Kc
    have E_r2 := E_r2.keep Kc
    have E_b4 := E_b4.keep Kc
    have Z0 : n0 ≤ T5.heap.size := Nat.le_trans Z0 Kc.1
    have O := O.keep Kc (allS g_b4 all0)
    refine own_st (V := T5.setTop (mkF m 66 #[.val (.int kk), .val (.int aa), .val (.int bb), .val (.int cc), .val (.int yy), .val (.int nn), .val (.int rv), .val (.ref r0), .val (.ref r1), .val (.ref r2), .val (.ref b4), .unset, .unset, .unset, .unset] [])) (fun _ hk => XS.astore Xr5.here hx rfl (hb hby at_64) rfl rfl (l' := #[.val (.int kk), .val (.int aa), .val (.int bb), .val (.int cc), .val (.int yy), .val (.int nn), .val (.int rv), .val (.ref r0), .val (.ref r1), .val (.ref r2), .val (.ref b4), .unset, .unset, .unset, .unset]) rfl hk) ?_
    obtain ⟨T6, h6, X6, e6, E6, A6, D6, -, st6⟩ := newO Xr5 hx hZr5 hownr5 (hw _ (List.mem_of_getElem? (i := 68) rfl)) (hw _ (List.mem_of_getElem? (i := 69) rfl)) (hw _ (List.mem_of_getElem? (i := 70) rfl)) rfl (g := (mkF m 66 #[.val (.int kk), .val (.int aa), .val (.int bb), .val (.int cc), .val (.int yy), .val (.int nn), .val (.int rv), .val (.ref r0), .val (.ref r1), .val (.ref r2), .val (.ref b4), .unset, .unset, .unset, .unset] [])) rfl (hb hby at_66) (by decide) (by decide)
    obtain ⟨b6, g6⟩ : ∃ z, z = T5.heap.size := ⟨_, rfl⟩
    rw [← g6] at A6 D6 st6
    have ne_r0_b6 : r0 ≠ b6 := Nat.ne_of_lt (Nat.lt_of_lt_of_le E_r0.lt (Nat.le_of_eq g6.symm))
    have ne_b6_r0 : b6 ≠ r0 := Ne.symm ne_r0_b6
    have ne_r1_b6 : r1 ≠ b6 := Nat.ne_of_lt (Nat.lt_of_lt_of_le E_r1.lt (Nat.le_of_eq g6.symm))
    have ne_b6_r1 : b6 ≠ r1 := Ne.symm ne_r1_b6
    have ne_r2_b6 : r2 ≠ b6 := Nat.ne_of_lt (Nat.lt_of_lt_of_le E_r2.lt (Nat.le_of_eq g6.symm))
    have ne_b6_r2 : b6 ≠ r2 := Ne.symm ne_r2_b6
    have ne_b4_b6 : b4 ≠ b6 := Nat.ne_of_lt (Nat.lt_of_lt_of_le E_b4.lt (Nat.le_of_eq g6.symm))
    have ne_b6_b4 : b6 ≠ b4 := Ne.symm ne_b4_b6
    have g_b6 : n0 ≤ b6 := Nat.le_trans Z0 (Nat.le_of_eq g6.symm)
    have E_r0 := E_r0.ext E6
    have E_r1 := E_r1.ext E6
    have E_r2 := E_r2.ext E6
    have E_b4 := E_b4.ext E6
    have B_b4 := B_b4.ext E6
    have O := O.ext E6
    have Z0 : n0 ≤ h6.size := Nat.le_trans Z0 E6.1
    have hkr5 := Nat.le_trans hkr5 E6.1
    have E_b6 := A6
    have F_before_b6 : Fld Z h6 b6 "com/example/vestline/vestline/service/SetAside" "before" "Ljava/time/LocalDate;" .null := D6 (Or.inr (hw _ (List.mem_of_getElem? (i := 94) rfl))) (ty := (.object "java/time/LocalDate")) (by decide)
    have F_on_b6 : Fld Z h6 b6 "com/example/vestline/vestline/service/SetAside" "on" "Ljava/time/LocalDate;" .null := D6 (Or.inr (hw _ (List.mem_of_getElem? (i := 96) rfl))) (ty := (.object "java/time/LocalDate")) (by decide)
    refine own_st (V := T6.setTop (mkF m 69 #[.val (.int kk), .val (.int aa), .val (.int bb), .val (.int cc), .val (.int yy), .val (.int nn), .val (.int rv), .val (.ref r0), .val (.ref r1), .val (.ref r2), .val (.ref b4), .unset, .unset, .unset, .unset] [(.ref b6)])) st6 ?_
    refine own_st (V := T6.setTop (mkF m 70 #[.val (.int kk), .val (.int aa), .val (.int bb), .val (.int cc), .val (.int yy), .val (.int nn), .val (.int rv), .val (.ref r0), .val (.ref r1), .val (.ref r2), .val (.ref b4), .unset, .unset, .unset, .unset] [(.ref b6), (.ref b6)])) (fun _ hk => XS.dup X6.here hx rfl (hb hby at_69) rfl rfl hk) ?_
    refine own_st (V := T6.setTop (mkF m 72 #[.val (.int kk), .val (.int aa), .val (.int bb), .val (.int cc), .val (.int yy), .val (.int nn), .val (.int rv), .val (.ref r0), .val (.ref r1), .val (.ref r2), .val (.ref b4), .unset, .unset, .unset, .unset] [(.ref r1), (.ref b6), (.ref b6)])) (fun _ hk => XS.aload X6.here hx rfl (hb hby at_70) rfl rfl hk) ?_
    refine own_st (V := T6.setTop (mkF m 74 #[.val (.int kk), .val (.int aa), .val (.int bb), .val (.int cc), .val (.int yy), .val (.int nn), .val (.int rv), .val (.ref r0), .val (.ref r1), .val (.ref r2), .val (.ref b4), .unset, .unset, .unset, .unset] [(.ref r2), (.ref r1), (.ref b6), (.ref b6)])) (fun _ hk => XS.aload X6.here hx rfl (hb hby at_72) rfl rfl hk) ?_
    obtain ⟨_, _, ⟨T7, L7, k7, n7⟩, -, X7, hSn7, hgr7, ⟨Lc7, hQ7, l7, y7, z7⟩, st7⟩ := X6.specialBackS hx (y := (⟨"com/example/vestline/vestline/service/SetAside", "<init>", "(Ljava/time/LocalDate;Ljava/time/LocalDate;)V"⟩ : MethodName)) rfl hownr5 (mvT hZr5 (hw _ (List.mem_of_getElem? (i := 71) rfl))) (mvT hZr5 (hw _ (List.mem_of_getElem? (i := 72) rfl))) (mvT hZr5 (hw _ (List.mem_of_getElem? (i := 73) rfl))) (by decide) (backOfS (W := 1) (rm_saInit l Z a0 hw [] b6 r1 r2 _ _ h6 n0 Z0 E_b6 F_before_b6 F_on_b6 g_b6) hZr5 (hw _ (List.mem_of_getElem? (i := 73) rfl)) (hw _ (List.mem_of_getElem? (i := 70) rfl)) (by decide) (by decide)) (g := (mkF m 74 #[.val (.int kk), .val (.int aa), .val (.int bb), .val (.int cc), .val (.int yy), .val (.int nn), .val (.int rv), .val (.ref r0), .val (.ref r1), .val (.ref r2), .val (.ref b4), .unset, .unset, .unset, .unset] [(.ref r2), (.ref r1), (.ref b6), (.ref b6)])) rfl (by rw [hml]; rfl) (Steps.refl _) (a := b6) (argsL := [(.ref r1), (.ref r2)]) (rest := [(.ref b6)]) (lenOf own_pd25 rfl) rfl (by show 2 * 0 + _ ≤ _; exact Nat.le_of_eq rfl) (hb hby at_74) (fun _ _ => ⟨rfl, e6, (by decide : 9 + 4 ≤ _), (by decide : 53 + 40 ≤ _)⟩)
    dsimp only [Pt.U, Pt.locs, Pt.cells, Pt.slots] at X7 l7 y7 z7 st7 hQ7 hSn7 hgr7
    subst l7 y7 z7
    obtain ⟨rfl, N7q, Kc, B_b6⟩ := hQ7
    have N7 := Fr.app N5 N7q
    obtain ⟨Xr7, hSr7, hZr7, hownr7⟩ := rebS hSr5 (by rw [e6]; exact hkr5 : _ ≤ T6.heap.size) X7 hSn7 hgr7 hZr5 hownr5
    refine own_tr (V := T7.setTop (mkF m 77 #[.val (.int kk), .val (.int aa), .val (.int bb), .val (.int cc), .val (.int yy), .val (.int nn), .val (.int rv), .val (.ref r0), .val (.ref r1), .val (.ref r2), .val (.ref b4), .unset, .unset, .unset, .unset] [(.ref b6)])) st7 ?_
    have hkr7 : T7.heap.size ≤ T7.heap.size := Nat.le_refl _
    have E_r0 := E_r0.keep Kc
    have E_r1 := E_r1.keep Kc
    have E_r2 := E_r2.keep Kc
    have E_b4 := E_b4.keep Kc
    have B_b4 := B_b4.keep Kc (ninS ne_b4_b6 nin0)
    have E_b6 := E_b6.keep Kc
    have Z0 : n0 ≤ T7.heap.size := Nat.le_trans Z0 Kc.1
    have O := O.keep Kc (allS g_b6 all0)
    refine own_st (V := T7.setTop (mkF m 79 #[.val (.int kk), .val (.int aa), .val (.int bb), .val (.int cc), .val (.int yy), .val (.int nn), .val (.int rv), .val (.ref r0), .val (.ref r1), .val (.ref r2), .val (.ref b4), .val (.ref b6), .unset, .unset, .unset] [])) (fun _ hk => XS.astore Xr7.here hx rfl (hb hby at_77) rfl rfl (l' := #[.val (.int kk), .val (.int aa), .val (.int bb), .val (.int cc), .val (.int yy), .val (.int nn), .val (.int rv), .val (.ref r0), .val (.ref r1), .val (.ref r2), .val (.ref b4), .val (.ref b6), .unset, .unset, .unset]) rfl hk) ?_
    obtain ⟨T8, h8, X8, e8, E8, A8, D8, -, st8⟩ := newO Xr7 hx hZr7 hownr7 (hw _ (List.mem_of_getElem? (i := 97) rfl)) (hw _ (List.mem_of_getElem? (i := 98) rfl)) (hw _ (List.mem_of_getElem? (i := 99) rfl)) rfl (g := (mkF m 79 #[.val (.int kk), .val (.int aa), .val (.int bb), .val (.int cc), .val (.int yy), .val (.int nn), .val (.int rv), .val (.ref r0), .val (.ref r1), .val (.ref r2), .val (.ref b4), .val (.ref b6), .unset, .unset, .unset] [])) rfl (hb hby at_79) (by decide) (by decide)
    obtain ⟨b8, g8⟩ : ∃ z, z = T7.heap.size := ⟨_, rfl⟩
    rw [← g8] at A8 D8 st8
    have ne_r0_b8 : r0 ≠ b8 := Nat.ne_of_lt (Nat.lt_of_lt_of_le E_r0.lt (Nat.le_of_eq g8.symm))
    have ne_b8_r0 : b8 ≠ r0 := Ne.symm ne_r0_b8
    have ne_r1_b8 : r1 ≠ b8 := Nat.ne_of_lt (Nat.lt_of_lt_of_le E_r1.lt (Nat.le_of_eq g8.symm))
    have ne_b8_r1 : b8 ≠ r1 := Ne.symm ne_r1_b8
    have ne_r2_b8 : r2 ≠ b8 := Nat.ne_of_lt (Nat.lt_of_lt_of_le E_r2.lt (Nat.le_of_eq g8.symm))
    have ne_b8_r2 : b8 ≠ r2 := Ne.symm ne_r2_b8
    have ne_b4_b8 : b4 ≠ b8 := Nat.ne_of_lt (Nat.lt_of_lt_of_le E_b4.lt (Nat.le_of_eq g8.symm))
    have ne_b8_b4 : b8 ≠ b4 := Ne.symm ne_b4_b8
    have ne_b6_b8 : b6 ≠ b8 := Nat.ne_of_lt (Nat.lt_of_lt_of_le E_b6.lt (Nat.le_of_eq g8.symm))
    have ne_b8_b6 : b8 ≠ b6 := Ne.symm ne_b6_b8
    have g_b8 : n0 ≤ b8 := Nat.le_trans Z0 (Nat.le_of_eq g8.symm)
    have E_r0 := E_r0.ext E8
    have E_r1 := E_r1.ext E8
    have E_r2 := E_r2.ext E8
    have E_b4 := E_b4.ext E8
    have B_b4 := B_b4.ext E8
    have E_b6 := E_b6.ext E8
    have B_b6 := B_b6.ext E8
    have O := O.ext E8
    have Z0 : n0 ≤ h8.size := Nat.le_trans Z0 E8.1
    have hkr7 := Nat.le_trans hkr7 E8.1
    have E_b8 := A8
    have F_modCount_b8 : Fld Z h8 b8 "java/util/AbstractList" "modCount" "I" (.int (0 : Int32)) := D8 (Or.inl (hw _ (List.mem_of_getElem? (i := 117) rfl))) (ty := .int) (by decide)
    have F_elementData_b8 : Fld Z h8 b8 "java/util/ArrayList" "elementData" "[Ljava/lang/Object;" .null := D8 (Or.inl (hw _ (List.mem_of_getElem? (i := 120) rfl))) (ty := (.array (.object "java/lang/Object"))) (by decide)
    have F_size_b8 : Fld Z h8 b8 "java/util/ArrayList" "size" "I" (.int (0 : Int32)) := D8 (Or.inl (hw _ (List.mem_of_getElem? (i := 152) rfl))) (ty := .int) (by decide)
    refine own_st (V := T8.setTop (mkF m 82 #[.val (.int kk), .val (.int aa), .val (.int bb), .val (.int cc), .val (.int yy), .val (.int nn), .val (.int rv), .val (.ref r0), .val (.ref r1), .val (.ref r2), .val (.ref b4), .val (.ref b6), .unset, .unset, .unset] [(.ref b8)])) st8 ?_
    refine own_st (V := T8.setTop (mkF m 83 #[.val (.int kk), .val (.int aa), .val (.int bb), .val (.int cc), .val (.int yy), .val (.int nn), .val (.int rv), .val (.ref r0), .val (.ref r1), .val (.ref r2), .val (.ref b4), .val (.ref b6), .unset, .unset, .unset] [(.ref b8), (.ref b8)])) (fun _ hk => XS.dup X8.here hx rfl (hb hby at_82) rfl rfl hk) ?_
    obtain ⟨_, _, ⟨T9, L9, k9, n9⟩, -, X9, ⟨Lc9, hQ9, l9, y9, z9⟩, st9⟩ := X8.specialBack hx (y := (⟨"java/util/ArrayList", "<init>", "()V"⟩ : MethodName)) rfl hownr7 (mvT hZr7 (hw _ (List.mem_of_getElem? (i := 100) rfl))) (mvT hZr7 (hw _ (List.mem_of_getElem? (i := 101) rfl))) (mvT hZr7 (hw _ (List.mem_of_getElem? (i := 102) rfl))) (by decide) (backOf (W := 1) (rm_alInit l Z a0 hw [] b8 _ _ _ dc el ea em mr kd ke h8 n0 Z0 O hT' E_b8 F_modCount_b8 F_elementData_b8 F_size_b8 g_b8) hZr7 (hw _ (List.mem_of_getElem? (i := 102) rfl)) (hw _ (List.mem_of_getElem? (i := 99) rfl)) (by decide) (by decide)) (g := (mkF m 83 #[.val (.int kk), .val (.int aa), .val (.int bb), .val (.int cc), .val (.int yy), .val (.int nn), .val (.int rv), .val (.ref r0), .val (.ref r1), .val (.ref r2), .val (.ref b4), .val (.ref b6), .unset, .unset, .unset] [(.ref b8), (.ref b8)])) rfl (by rw [hml]; rfl) (Steps.refl _) (a := b8) (argsL := []) (rest := [(.ref b8)]) (lenOf own_pd6 rfl) rfl (by show 2 * 0 + _ ≤ _; exact Nat.le_of_eq rfl) (hb hby at_83) (fun _ _ => ⟨rfl, e8, (by decide : 14 + 0 ≤ _), (by decide : 96 + 0 ≤ _)⟩)
    dsimp only [Pt.U, Pt.locs, Pt.cells, Pt.slots] at X9 l9 y9 z9 st9 hQ9
    subst l9 y9 z9
    obtain ⟨rfl, N9q, Kc, Am, Ae, Az⟩ := hQ9
    have N9 := Fr.app N7 N9q
    refine own_tr (V := T9.setTop (mkF m 86 #[.val (.int kk), .val (.int aa), .val (.int bb), .val (.int cc), .val (.int yy), .val (.int nn), .val (.int rv), .val (.ref r0), .val (.ref r1), .val (.ref r2), .val (.ref b4), .val (.ref b6), .unset, .unset, .unset] [(.ref b8)])) st9 ?_
    have E_r0 := E_r0.keep Kc
    have E_r1 := E_r1.keep Kc
    have E_r2 := E_r2.keep Kc
    have E_b4 := E_b4.keep Kc
    have B_b4 := B_b4.keep Kc (ninS ne_b4_b8 nin0)
    have E_b6 := E_b6.keep Kc
    have B_b6 := B_b6.keep Kc (ninS ne_b6_b8 nin0)
    have E_b8 := E_b8.keep Kc
    have Z0 : n0 ≤ T9.heap.size := Nat.le_trans Z0 Kc.1
    have hkr7 := Nat.le_trans hkr7 Kc.1
    have O := O.keep Kc (allS g_b8 all0)
    refine own_st (V := T9.setTop (mkF m 88 #[.val (.int kk), .val (.int aa), .val (.int bb), .val (.int cc), .val (.int yy), .val (.int nn), .val (.int rv), .val (.ref r0), .val (.ref r1), .val (.ref r2), .val (.ref b4), .val (.ref b6), .val (.ref b8), .unset, .unset] [])) (fun _ hk => XS.astore X9.here hx rfl (hb hby at_86) rfl rfl (l' := #[.val (.int kk), .val (.int aa), .val (.int bb), .val (.int cc), .val (.int yy), .val (.int nn), .val (.int rv), .val (.ref r0), .val (.ref r1), .val (.ref r2), .val (.ref b4), .val (.ref b6), .val (.ref b8), .unset, .unset]) rfl hk) ?_
    refine own_st (V := T9.setTop (mkF m 90 #[.val (.int kk), .val (.int aa), .val (.int bb), .val (.int cc), .val (.int yy), .val (.int nn), .val (.int rv), .val (.ref r0), .val (.ref r1), .val (.ref r2), .val (.ref b4), .val (.ref b6), .val (.ref b8), .unset, .unset] [(.int nn)])) (fun _ hk => XS.iload X9.here hx rfl (hb hby at_88) rfl  hk) ?_
    refine own_st (V := T9.setTop (mkF m 91 #[.val (.int kk), .val (.int aa), .val (.int bb), .val (.int cc), .val (.int yy), .val (.int nn), .val (.int rv), .val (.ref r0), .val (.ref r1), .val (.ref r2), .val (.ref b4), .val (.ref b6), .val (.ref b8), .unset, .unset] [(.int (1 : Int32)), (.int nn)])) (fun _ hk => XS.iconst X9.here hx rfl (hb hby at_90) hk) ?_
    rcases hn3 with hz | hz | hz
    · skip
      refine own_st (V := T9.setTop (mkF m 102 #[.val (.int kk), .val (.int aa), .val (.int bb), .val (.int cc), .val (.int yy), .val (.int nn), .val (.int rv), .val (.ref r0), .val (.ref r1), .val (.ref r2), .val (.ref b4), .val (.ref b6), .val (.ref b8), .unset, .unset] [])) (fun _ hk => XS.icmpYes X9.here hx rfl (pc0 := 91) (pc' := 102) rfl (hb hby at_91) rfl (feq (show ¬ (nn = (1 : Int32)) from (by rw [hz]; decide))).2 (by decide) (by decide) hk) ?_
      refine own_st (V := T9.setTop (mkF m 104 #[.val (.int kk), .val (.int aa), .val (.int bb), .val (.int cc), .val (.int yy), .val (.int nn), .val (.int rv), .val (.ref r0), .val (.ref r1), .val (.ref r2), .val (.ref b4), .val (.ref b6), .val (.ref b8), .unset, .unset] [(.int nn)])) (fun _ hk => XS.iload X9.here hx rfl (hb hby at_102) rfl  hk) ?_
      refine own_st (V := T9.setTop (mkF m 105 #[.val (.int kk), .val (.int aa), .val (.int bb), .val (.int cc), .val (.int yy), .val (.int nn), .val (.int rv), .val (.ref r0), .val (.ref r1), .val (.ref r2), .val (.ref b4), .val (.ref b6), .val (.ref b8), .unset, .unset] [(.int (2 : Int32)), (.int nn)])) (fun _ hk => XS.iconst X9.here hx rfl (hb hby at_104) hk) ?_
      refine own_st (V := T9.setTop (mkF m 148 #[.val (.int kk), .val (.int aa), .val (.int bb), .val (.int cc), .val (.int yy), .val (.int nn), .val (.int rv), .val (.ref r0), .val (.ref r1), .val (.ref r2), .val (.ref b4), .val (.ref b6), .val (.ref b8), .unset, .unset] [])) (fun _ hk => XS.icmpYes X9.here hx rfl (pc0 := 105) (pc' := 148) rfl (hb hby at_105) rfl (feq (show ¬ (nn = (2 : Int32)) from (by rw [hz]; decide))).2 (by decide) (by decide) hk) ?_
      obtain ⟨T10, h10, X10, e10, E10, A10, D10, -, st10⟩ := newO X9 hx hZr7 hownr7 (hw _ (List.mem_of_getElem? (i := 121) rfl)) (hw _ (List.mem_of_getElem? (i := 122) rfl)) (hw _ (List.mem_of_getElem? (i := 123) rfl)) rfl (g := (mkF m 148 #[.val (.int kk), .val (.int aa), .val (.int bb), .val (.int cc), .val (.int yy), .val (.int nn), .val (.int rv), .val (.ref r0), .val (.ref r1), .val (.ref r2), .val (.ref b4), .val (.ref b6), .val (.ref b8), .unset, .unset] [])) rfl (hb hby at_148) (by decide) (by decide)
      obtain ⟨b10, g10⟩ : ∃ z, z = T9.heap.size := ⟨_, rfl⟩
      rw [← g10] at A10 D10 st10
      have ne_r0_b10 : r0 ≠ b10 := Nat.ne_of_lt (Nat.lt_of_lt_of_le E_r0.lt (Nat.le_of_eq g10.symm))
      have ne_b10_r0 : b10 ≠ r0 := Ne.symm ne_r0_b10
      have ne_r1_b10 : r1 ≠ b10 := Nat.ne_of_lt (Nat.lt_of_lt_of_le E_r1.lt (Nat.le_of_eq g10.symm))
      have ne_b10_r1 : b10 ≠ r1 := Ne.symm ne_r1_b10
      have ne_r2_b10 : r2 ≠ b10 := Nat.ne_of_lt (Nat.lt_of_lt_of_le E_r2.lt (Nat.le_of_eq g10.symm))
      have ne_b10_r2 : b10 ≠ r2 := Ne.symm ne_r2_b10
      have ne_b4_b10 : b4 ≠ b10 := Nat.ne_of_lt (Nat.lt_of_lt_of_le E_b4.lt (Nat.le_of_eq g10.symm))
      have ne_b10_b4 : b10 ≠ b4 := Ne.symm ne_b4_b10
      have ne_b6_b10 : b6 ≠ b10 := Nat.ne_of_lt (Nat.lt_of_lt_of_le E_b6.lt (Nat.le_of_eq g10.symm))
      have ne_b10_b6 : b10 ≠ b6 := Ne.symm ne_b6_b10
      have ne_b8_b10 : b8 ≠ b10 := Nat.ne_of_lt (Nat.lt_of_lt_of_le E_b8.lt (Nat.le_of_eq g10.symm))
      have ne_b10_b8 : b10 ≠ b8 := Ne.symm ne_b8_b10
      have g_b10 : n0 ≤ b10 := Nat.le_trans Z0 (Nat.le_of_eq g10.symm)
      have E_r0 := E_r0.ext E10
      have E_r1 := E_r1.ext E10
      have E_r2 := E_r2.ext E10
      have E_b4 := E_b4.ext E10
      have B_b4 := B_b4.ext E10
      have E_b6 := E_b6.ext E10
      have B_b6 := B_b6.ext E10
      have E_b8 := E_b8.ext E10
      have Am := Am.ext E10
      have Ae := Ae.ext E10
      have Az := Az.ext E10
      have O := O.ext E10
      have Z0 : n0 ≤ h10.size := Nat.le_trans Z0 E10.1
      have hkr7 := Nat.le_trans hkr7 E10.1
      have E_b10 := A10
      have F_periods_b10 : Fld Z h10 b10 "com/example/vestline/vestline/service/ServiceCount" "periods" "Ljava/util/List;" .null := D10 (Or.inr (hw _ (List.mem_of_getElem? (i := 158) rfl))) (ty := (.object "java/util/List")) (by decide)
      have F_years_b10 : Fld Z h10 b10 "com/example/vestline/vestline/service/ServiceCount" "years" "I" (.int (0 : Int32)) := D10 (Or.inr (hw _ (List.mem_of_getElem? (i := 160) rfl))) (ty := .int) (by decide)
      have F_setAsides_b10 : Fld Z h10 b10 "com/example/vestline/vestline/service/ServiceCount" "setAsides" "Ljava/util/List;" .null := D10 (Or.inr (hw _ (List.mem_of_getElem? (i := 162) rfl))) (ty := (.object "java/util/List")) (by decide)
      refine own_st (V := T10.setTop (mkF m 151 #[.val (.int kk), .val (.int aa), .val (.int bb), .val (.int cc), .val (.int yy), .val (.int nn), .val (.int rv), .val (.ref r0), .val (.ref r1), .val (.ref r2), .val (.ref b4), .val (.ref b6), .val (.ref b8), .unset, .unset] [(.ref b10)])) st10 ?_
      refine own_st (V := T10.setTop (mkF m 152 #[.val (.int kk), .val (.int aa), .val (.int bb), .val (.int cc), .val (.int yy), .val (.int nn), .val (.int rv), .val (.ref r0), .val (.ref r1), .val (.ref r2), .val (.ref b4), .val (.ref b6), .val (.ref b8), .unset, .unset] [(.ref b10), (.ref b10)])) (fun _ hk => XS.dup X10.here hx rfl (hb hby at_151) rfl rfl hk) ?_
      obtain ⟨T11, h11, X11, e11, E11, A11, D11, -, st11⟩ := newO X10 hx hZr7 hownr7 (hw _ (List.mem_of_getElem? (i := 97) rfl)) (hw _ (List.mem_of_getElem? (i := 98) rfl)) (hw _ (List.mem_of_getElem? (i := 99) rfl)) e10 (g := (mkF m 152 #[.val (.int kk), .val (.int aa), .val (.int bb), .val (.int cc), .val (.int yy), .val (.int nn), .val (.int rv), .val (.ref r0), .val (.ref r1), .val (.ref r2), .val (.ref b4), .val (.ref b6), .val (.ref b8), .unset, .unset] [(.ref b10), (.ref b10)])) rfl (hb hby at_152) (by decide) (by decide)
      obtain ⟨b11, g11⟩ : ∃ z, z = h10.size := ⟨_, rfl⟩
      rw [← g11] at A11 D11 st11
      have ne_r0_b11 : r0 ≠ b11 := Nat.ne_of_lt (Nat.lt_of_lt_of_le E_r0.lt (Nat.le_of_eq g11.symm))
      have ne_b11_r0 : b11 ≠ r0 := Ne.symm ne_r0_b11
      have ne_r1_b11 : r1 ≠ b11 := Nat.ne_of_lt (Nat.lt_of_lt_of_le E_r1.lt (Nat.le_of_eq g11.symm))
      have ne_b11_r1 : b11 ≠ r1 := Ne.symm ne_r1_b11
      have ne_r2_b11 : r2 ≠ b11 := Nat.ne_of_lt (Nat.lt_of_lt_of_le E_r2.lt (Nat.le_of_eq g11.symm))
      have ne_b11_r2 : b11 ≠ r2 := Ne.symm ne_r2_b11
      have ne_b4_b11 : b4 ≠ b11 := Nat.ne_of_lt (Nat.lt_of_lt_of_le E_b4.lt (Nat.le_of_eq g11.symm))
      have ne_b11_b4 : b11 ≠ b4 := Ne.symm ne_b4_b11
      have ne_b6_b11 : b6 ≠ b11 := Nat.ne_of_lt (Nat.lt_of_lt_of_le E_b6.lt (Nat.le_of_eq g11.symm))
      have ne_b11_b6 : b11 ≠ b6 := Ne.symm ne_b6_b11
      have ne_b8_b11 : b8 ≠ b11 := Nat.ne_of_lt (Nat.lt_of_lt_of_le E_b8.lt (Nat.le_of_eq g11.symm))
      have ne_b11_b8 : b11 ≠ b8 := Ne.symm ne_b8_b11
      have ne_b10_b11 : b10 ≠ b11 := Nat.ne_of_lt (Nat.lt_of_lt_of_le E_b10.lt (Nat.le_of_eq g11.symm))
      have ne_b11_b10 : b11 ≠ b10 := Ne.symm ne_b10_b11
      have g_b11 : n0 ≤ b11 := Nat.le_trans Z0 (Nat.le_of_eq g11.symm)
      have E_r0 := E_r0.ext E11
      have E_r1 := E_r1.ext E11
      have E_r2 := E_r2.ext E11
      have E_b4 := E_b4.ext E11
      have B_b4 := B_b4.ext E11
      have E_b6 := E_b6.ext E11
      have B_b6 := B_b6.ext E11
      have E_b8 := E_b8.ext E11
      have Am := Am.ext E11
      have Ae := Ae.ext E11
      have Az := Az.ext E11
      have E_b10 := E_b10.ext E11
      have F_periods_b10 := F_periods_b10.ext E11
      have F_years_b10 := F_years_b10.ext E11
      have F_setAsides_b10 := F_setAsides_b10.ext E11
      have O := O.ext E11
      have Z0 : n0 ≤ h11.size := Nat.le_trans Z0 E11.1
      have hkr7 := Nat.le_trans hkr7 E11.1
      have E_b11 := A11
      have F_modCount_b11 : Fld Z h11 b11 "java/util/AbstractList" "modCount" "I" (.int (0 : Int32)) := D11 (Or.inl (hw _ (List.mem_of_getElem? (i := 117) rfl))) (ty := .int) (by decide)
      have F_elementData_b11 : Fld Z h11 b11 "java/util/ArrayList" "elementData" "[Ljava/lang/Object;" .null := D11 (Or.inl (hw _ (List.mem_of_getElem? (i := 120) rfl))) (ty := (.array (.object "java/lang/Object"))) (by decide)
      have F_size_b11 : Fld Z h11 b11 "java/util/ArrayList" "size" "I" (.int (0 : Int32)) := D11 (Or.inl (hw _ (List.mem_of_getElem? (i := 152) rfl))) (ty := .int) (by decide)
      refine own_st (V := T11.setTop (mkF m 155 #[.val (.int kk), .val (.int aa), .val (.int bb), .val (.int cc), .val (.int yy), .val (.int nn), .val (.int rv), .val (.ref r0), .val (.ref r1), .val (.ref r2), .val (.ref b4), .val (.ref b6), .val (.ref b8), .unset, .unset] [(.ref b11), (.ref b10), (.ref b10)])) st11 ?_
      refine own_st (V := T11.setTop (mkF m 156 #[.val (.int kk), .val (.int aa), .val (.int bb), .val (.int cc), .val (.int yy), .val (.int nn), .val (.int rv), .val (.ref r0), .val (.ref r1), .val (.ref r2), .val (.ref b4), .val (.ref b6), .val (.ref b8), .unset, .unset] [(.ref b11), (.ref b11), (.ref b10), (.ref b10)])) (fun _ hk => XS.dup X11.here hx rfl (hb hby at_155) rfl rfl hk) ?_
      obtain ⟨_, _, ⟨T12, L12, k12, n12⟩, -, X12, ⟨Lc12, hQ12, l12, y12, z12⟩, st12⟩ := X11.specialBack hx (y := (⟨"java/util/ArrayList", "<init>", "()V"⟩ : MethodName)) rfl hownr7 (mvT hZr7 (hw _ (List.mem_of_getElem? (i := 100) rfl))) (mvT hZr7 (hw _ (List.mem_of_getElem? (i := 101) rfl))) (mvT hZr7 (hw _ (List.mem_of_getElem? (i := 102) rfl))) (by decide) (backOf (W := 3) (rm_alInit l Z a0 hw [] b11 _ _ _ dc el ea em mr kd ke h11 n0 Z0 O hT' E_b11 F_modCount_b11 F_elementData_b11 F_size_b11 g_b11) hZr7 (hw _ (List.mem_of_getElem? (i := 102) rfl)) (hw _ (List.mem_of_getElem? (i := 99) rfl)) (by decide) (by decide)) (g := (mkF m 156 #[.val (.int kk), .val (.int aa), .val (.int bb), .val (.int cc), .val (.int yy), .val (.int nn), .val (.int rv), .val (.ref r0), .val (.ref r1), .val (.ref r2), .val (.ref b4), .val (.ref b6), .val (.ref b8), .unset, .unset] [(.ref b11), (.ref b11), (.ref b10), (.ref b10)])) rfl (by rw [hml]; rfl) (Steps.refl _) (a := b11) (argsL := []) (rest := [(.ref b11), (.ref b10), (.ref b10)]) (lenOf own_pd6 rfl) rfl (by show 2 * 0 + _ ≤ _; exact Nat.le_of_eq rfl) (hb hby at_156) (fun _ _ => ⟨rfl, e11, (by decide : 16 + 0 ≤ _), (by decide : 102 + 0 ≤ _)⟩)
      dsimp only [Pt.U, Pt.locs, Pt.cells, Pt.slots] at X12 l12 y12 z12 st12 hQ12
      subst l12 y12 z12
      obtain ⟨rfl, N12q, Kc, Pm, Pe, Pz⟩ := hQ12
      have N12 := Fr.app N9 N12q
      refine own_tr (V := T12.setTop (mkF m 159 #[.val (.int kk), .val (.int aa), .val (.int bb), .val (.int cc), .val (.int yy), .val (.int nn), .val (.int rv), .val (.ref r0), .val (.ref r1), .val (.ref r2), .val (.ref b4), .val (.ref b6), .val (.ref b8), .unset, .unset] [(.ref b11), (.ref b10), (.ref b10)])) st12 ?_
      have E_r0 := E_r0.keep Kc
      have E_r1 := E_r1.keep Kc
      have E_r2 := E_r2.keep Kc
      have E_b4 := E_b4.keep Kc
      have B_b4 := B_b4.keep Kc (ninS ne_b4_b11 nin0)
      have E_b6 := E_b6.keep Kc
      have B_b6 := B_b6.keep Kc (ninS ne_b6_b11 nin0)
      have E_b8 := E_b8.keep Kc
      have Am := Am.keep Kc (ninS ne_b8_b11 nin0)
      have Ae := Ae.keep Kc (ninS ne_b8_b11 nin0)
      have Az := Az.keep Kc (ninS ne_b8_b11 nin0)
      have E_b10 := E_b10.keep Kc
      have F_periods_b10 := F_periods_b10.keep Kc (ninS ne_b10_b11 nin0)
      have F_years_b10 := F_years_b10.keep Kc (ninS ne_b10_b11 nin0)
      have F_setAsides_b10 := F_setAsides_b10.keep Kc (ninS ne_b10_b11 nin0)
      have E_b11 := E_b11.keep Kc
      have Z0 : n0 ≤ T12.heap.size := Nat.le_trans Z0 Kc.1
      have hkr7 := Nat.le_trans hkr7 Kc.1
      have O := O.keep Kc (allS g_b11 all0)
      refine own_st (V := T12.setTop (mkF m 161 #[.val (.int kk), .val (.int aa), .val (.int bb), .val (.int cc), .val (.int yy), .val (.int nn), .val (.int rv), .val (.ref r0), .val (.ref r1), .val (.ref r2), .val (.ref b4), .val (.ref b6), .val (.ref b8), .unset, .unset] [(.int yy), (.ref b11), (.ref b10), (.ref b10)])) (fun _ hk => XS.iload X12.here hx rfl (hb hby at_159) rfl  hk) ?_
      refine own_st (V := T12.setTop (mkF m 163 #[.val (.int kk), .val (.int aa), .val (.int bb), .val (.int cc), .val (.int yy), .val (.int nn), .val (.int rv), .val (.ref r0), .val (.ref r1), .val (.ref r2), .val (.ref b4), .val (.ref b6), .val (.ref b8), .unset, .unset] [(.ref b8), (.int yy), (.ref b11), (.ref b10), (.ref b10)])) (fun _ hk => XS.aload X12.here hx rfl (hb hby at_161) rfl rfl hk) ?_
      obtain ⟨_, _, ⟨T13, L13, k13, n13⟩, -, X13, ⟨Lc13, hQ13, l13, y13, z13⟩, st13⟩ := X12.specialBack hx (y := (⟨"com/example/vestline/vestline/service/ServiceCount", "<init>", "(Ljava/util/List;ILjava/util/List;)V"⟩ : MethodName)) rfl hownr7 (mvT hZr7 (hw _ (List.mem_of_getElem? (i := 124) rfl))) (mvT hZr7 (hw _ (List.mem_of_getElem? (i := 125) rfl))) (mvT hZr7 (hw _ (List.mem_of_getElem? (i := 126) rfl))) (by decide) (backOf (W := 1) (rm_scInit0 l Z a0 hw [] b10 b11 yy _ _ _ b8 dc el ea em mr kd ke T12.heap n0 Z0 O hT' E_b10 F_periods_b10 F_years_b10 F_setAsides_b10 g_b10 E_b11 Pz E_b8 Az) hZr7 (hw _ (List.mem_of_getElem? (i := 126) rfl)) (hw _ (List.mem_of_getElem? (i := 123) rfl)) (by decide) (by decide)) (g := (mkF m 163 #[.val (.int kk), .val (.int aa), .val (.int bb), .val (.int cc), .val (.int yy), .val (.int nn), .val (.int rv), .val (.ref r0), .val (.ref r1), .val (.ref r2), .val (.ref b4), .val (.ref b6), .val (.ref b8), .unset, .unset] [(.ref b8), (.int yy), (.ref b11), (.ref b10), (.ref b10)])) rfl (by rw [hml]; rfl) (Steps.refl _) (a := b10) (argsL := [(.ref b11), (.int yy), (.ref b8)]) (rest := [(.ref b10)]) (lenOf own_pd26 rfl) rfl (by show 2 * 0 + _ ≤ _; exact Nat.le_of_eq rfl) (hb hby at_163) (fun _ _ => ⟨rfl, rfl, (by decide : 16 + 0 ≤ _), (by decide : 102 + 0 ≤ _)⟩)
      dsimp only [Pt.U, Pt.locs, Pt.cells, Pt.slots] at X13 l13 y13 z13 st13 hQ13
      subst l13 y13 z13
      obtain ⟨rfl, N13q, Kc, Fs⟩ := hQ13
      have N13 := Fr.app N12 N13q
      refine own_tr (V := T13.setTop (mkF m 166 #[.val (.int kk), .val (.int aa), .val (.int bb), .val (.int cc), .val (.int yy), .val (.int nn), .val (.int rv), .val (.ref r0), .val (.ref r1), .val (.ref r2), .val (.ref b4), .val (.ref b6), .val (.ref b8), .unset, .unset] [(.ref b10)])) st13 ?_
      have E_r0 := E_r0.keep Kc
      have E_r1 := E_r1.keep Kc
      have E_r2 := E_r2.keep Kc
      have E_b4 := E_b4.keep Kc
      have B_b4 := B_b4.keep Kc (ninS ne_b4_b10 nin0)
      have E_b6 := E_b6.keep Kc
      have B_b6 := B_b6.keep Kc (ninS ne_b6_b10 nin0)
      have E_b8 := E_b8.keep Kc
      have Am := Am.keep Kc (ninS ne_b8_b10 nin0)
      have Ae := Ae.keep Kc (ninS ne_b8_b10 nin0)
      have Az := Az.keep Kc (ninS ne_b8_b10 nin0)
      have E_b10 := E_b10.keep Kc
      have E_b11 := E_b11.keep Kc
      have Pm := Pm.keep Kc (ninS ne_b11_b10 nin0)
      have Pe := Pe.keep Kc (ninS ne_b11_b10 nin0)
      have Pz := Pz.keep Kc (ninS ne_b11_b10 nin0)
      have Z0 : n0 ≤ T13.heap.size := Nat.le_trans Z0 Kc.1
      have hkr7 := Nat.le_trans hkr7 Kc.1
      have O := O.keep Kc (allS g_b10 all0)
      refine own_st (V := T13.setTop (mkF m 168 #[.val (.int kk), .val (.int aa), .val (.int bb), .val (.int cc), .val (.int yy), .val (.int nn), .val (.int rv), .val (.ref r0), .val (.ref r1), .val (.ref r2), .val (.ref b4), .val (.ref b6), .val (.ref b8), .val (.ref b10), .unset] [])) (fun _ hk => XS.astore X13.here hx rfl (hb hby at_166) rfl rfl (l' := #[.val (.int kk), .val (.int aa), .val (.int bb), .val (.int cc), .val (.int yy), .val (.int nn), .val (.int rv), .val (.ref r0), .val (.ref r1), .val (.ref r2), .val (.ref b4), .val (.ref b6), .val (.ref b8), .val (.ref b10), .unset]) rfl hk) ?_
      refine own_st (V := T13.setTop (mkF m 170 #[.val (.int kk), .val (.int aa), .val (.int bb), .val (.int cc), .val (.int yy), .val (.int nn), .val (.int rv), .val (.ref r0), .val (.ref r1), .val (.ref r2), .val (.ref b4), .val (.ref b6), .val (.ref b8), .val (.ref b10), .unset] [(.ref b10)])) (fun _ hk => XS.aload X13.here hx rfl (hb hby at_168) rfl rfl hk) ?_
      obtain ⟨cq14, kq14, q14a, q14b, q14c⟩ := isOf hZr7 rfl E_b10
      obtain ⟨_, _, ⟨T14, L14, k14, n14⟩, -, X14, ⟨Lc14, hQ14, l14, y14, z14⟩, st14⟩ := X13.virtualBack hx (y := (⟨"com/example/vestline/vestline/service/ServiceCount", "setAsideBefore", "()Ljava/time/LocalDate;"⟩ : MethodName)) (z := (⟨"com/example/vestline/vestline/service/ServiceCount", "setAsideBefore", "()Ljava/time/LocalDate;"⟩ : MethodName)) hownr7 (mvT hZr7 (hw _ (List.mem_of_getElem? (i := 163) rfl))) (mvT hZr7 (hw _ (List.mem_of_getElem? (i := 164) rfl))) (notFace_of_selects (args := #[]) (mvT hZr7 (hw _ (List.mem_of_getElem? (i := 166) rfl)))) (mvT hZr7 (hw _ (List.mem_of_getElem? (i := 166) rfl))) (mvT hZr7 (hw _ (List.mem_of_getElem? (i := 165) rfl))) (by decide) (backOf (W := 0) (rm_sab0 l Z a0 hw [] b10 dc el ea em mr kd ke T13.heap n0 Z0 O hT' Fs) hZr7 (hw _ (List.mem_of_getElem? (i := 167) rfl)) (hw _ (List.mem_of_getElem? (i := 123) rfl)) (by decide) (by decide)) q14a q14c (g := (mkF m 170 #[.val (.int kk), .val (.int aa), .val (.int bb), .val (.int cc), .val (.int yy), .val (.int nn), .val (.int rv), .val (.ref r0), .val (.ref r1), .val (.ref r2), .val (.ref b4), .val (.ref b6), .val (.ref b8), .val (.ref b10), .unset] [(.ref b10)])) rfl (by rw [hml]; rfl) (Steps.refl _) (argsL := []) (rest := []) (lenOf own_pd23 rfl) rfl (by show 2 * 0 + _ ≤ _; exact Nat.le_of_eq rfl) (hb hby at_170) (fun _ _ => ⟨rfl, rfl, (by decide : 16 + 0 ≤ _), (by decide : 102 + 0 ≤ _)⟩)
      dsimp only [Pt.U, Pt.locs, Pt.cells, Pt.slots] at X14 l14 y14 z14 st14 hQ14
      subst l14 y14 z14
      obtain ⟨rfl, N14q, es14⟩ := hQ14
      have N14 := Fr.app N13 N14q
      refine own_tr (V := T14.setTop (mkF m 173 #[.val (.int kk), .val (.int aa), .val (.int bb), .val (.int cc), .val (.int yy), .val (.int nn), .val (.int rv), .val (.ref r0), .val (.ref r1), .val (.ref r2), .val (.ref b4), .val (.ref b6), .val (.ref b8), .val (.ref b10), .unset] [.null])) st14 ?_
      refine own_st (V := T14.setTop (mkF m 175 #[.val (.int kk), .val (.int aa), .val (.int bb), .val (.int cc), .val (.int yy), .val (.int nn), .val (.int rv), .val (.ref r0), .val (.ref r1), .val (.ref r2), .val (.ref b4), .val (.ref b6), .val (.ref b8), .val (.ref b10), .val .null] [])) (fun _ hk => XS.astore X14.here hx rfl (hb hby at_173) rfl rfl (l' := #[.val (.int kk), .val (.int aa), .val (.int bb), .val (.int cc), .val (.int yy), .val (.int nn), .val (.int rv), .val (.ref r0), .val (.ref r1), .val (.ref r2), .val (.ref b4), .val (.ref b6), .val (.ref b8), .val (.ref b10), .val .null]) rfl hk) ?_
      refine own_st (V := T14.setTop (mkF m 177 #[.val (.int kk), .val (.int aa), .val (.int bb), .val (.int cc), .val (.int yy), .val (.int nn), .val (.int rv), .val (.ref r0), .val (.ref r1), .val (.ref r2), .val (.ref b4), .val (.ref b6), .val (.ref b8), .val (.ref b10), .val .null] [(.int nn)])) (fun _ hk => XS.iload X14.here hx rfl (hb hby at_175) rfl  hk) ?_
      refine own_st (V := T14.setTop (mkF m 180 #[.val (.int kk), .val (.int aa), .val (.int bb), .val (.int cc), .val (.int yy), .val (.int nn), .val (.int rv), .val (.ref r0), .val (.ref r1), .val (.ref r2), .val (.ref b4), .val (.ref b6), .val (.ref b8), .val (.ref b10), .val .null] [])) (fun _ hk => XS.ifNo X14.here hx rfl (hb hby at_177) rfl ((if0 _ _).trans (teq (show nn = (0 : Int32) from hz)).2) hk) ?_
      refine own_st (V := T14.setTop (mkF m 182 #[.val (.int kk), .val (.int aa), .val (.int bb), .val (.int cc), .val (.int yy), .val (.int nn), .val (.int rv), .val (.ref r0), .val (.ref r1), .val (.ref r2), .val (.ref b4), .val (.ref b6), .val (.ref b8), .val (.ref b10), .val .null] [.null])) (fun _ hk => XS.aload X14.here hx rfl (hb hby at_180) rfl rfl hk) ?_
      refine own_st (V := T14.setTop (mkF m 185 #[.val (.int kk), .val (.int aa), .val (.int bb), .val (.int cc), .val (.int yy), .val (.int nn), .val (.int rv), .val (.ref r0), .val (.ref r1), .val (.ref r2), .val (.ref b4), .val (.ref b6), .val (.ref b8), .val (.ref b10), .val .null] [])) (fun _ hk => XS.ifnonnullNo X14.here hx rfl (hb hby at_182) rfl hk) ?_
      refine own_st (V := T14.setTop (mkF m 186 #[.val (.int kk), .val (.int aa), .val (.int bb), .val (.int cc), .val (.int yy), .val (.int nn), .val (.int rv), .val (.ref r0), .val (.ref r1), .val (.ref r2), .val (.ref b4), .val (.ref b6), .val (.ref b8), .val (.ref b10), .val .null] [(.int (1 : Int32))])) (fun _ hk => XS.iconst X14.here hx rfl (hb hby at_185) hk) ?_
      refine own_st (V := T14.setTop (mkF m 190 #[.val (.int kk), .val (.int aa), .val (.int bb), .val (.int cc), .val (.int yy), .val (.int nn), .val (.int rv), .val (.ref r0), .val (.ref r1), .val (.ref r2), .val (.ref b4), .val (.ref b6), .val (.ref b8), .val (.ref b10), .val .null] [(.int (1 : Int32))])) (fun _ hk => XS.goto X14.here hx rfl (pc0 := 186) (pc' := 190) rfl (hb hby at_186) (by decide) (by decide) hk) ?_
      exact own_retNW X14 hSr7 (by rw [es14]; exact hkr7) hx Bd.notSynchronized Bd.returns rfl (by simp) (hb hby at_190) (by decide) (by decide) (fun U hU hV hE => hF _ _ ⟨_, _, rfl, (by rw [hU, es14]; exact ⟨rfl, N14⟩), hE⟩)
    · skip
      refine own_st (V := T9.setTop (mkF m 94 #[.val (.int kk), .val (.int aa), .val (.int bb), .val (.int cc), .val (.int yy), .val (.int nn), .val (.int rv), .val (.ref r0), .val (.ref r1), .val (.ref r2), .val (.ref b4), .val (.ref b6), .val (.ref b8), .unset, .unset] [])) (fun _ hk => XS.icmpNo X9.here hx rfl (hb hby at_91) rfl (teq (show nn = (1 : Int32) from hz)).2 hk) ?_
      refine own_st (V := T9.setTop (mkF m 96 #[.val (.int kk), .val (.int aa), .val (.int bb), .val (.int cc), .val (.int yy), .val (.int nn), .val (.int rv), .val (.ref r0), .val (.ref r1), .val (.ref r2), .val (.ref b4), .val (.ref b6), .val (.ref b8), .unset, .unset] [(.ref b8)])) (fun _ hk => XS.aload X9.here hx rfl (hb hby at_94) rfl rfl hk) ?_
      refine own_st (V := T9.setTop (mkF m 98 #[.val (.int kk), .val (.int aa), .val (.int bb), .val (.int cc), .val (.int yy), .val (.int nn), .val (.int rv), .val (.ref r0), .val (.ref r1), .val (.ref r2), .val (.ref b4), .val (.ref b6), .val (.ref b8), .unset, .unset] [(.ref b4), (.ref b8)])) (fun _ hk => XS.aload X9.here hx rfl (hb hby at_96) rfl rfl hk) ?_
      have lt_al := E_b8.lt
      obtain ⟨cq15, kq15, q15a, q15b, q15c⟩ := isOf hZr7 rfl E_b8
      obtain ⟨_, _, ⟨T15, L15, k15, n15⟩, -, X15, ⟨Lc15, hQ15, l15, y15, z15⟩, st15⟩ := X9.virtualBack hx (y := (⟨"java/util/ArrayList", "add", "(Ljava/lang/Object;)Z"⟩ : MethodName)) (z := (⟨"java/util/ArrayList", "add", "(Ljava/lang/Object;)Z"⟩ : MethodName)) hownr7 (mvT hZr7 (hw _ (List.mem_of_getElem? (i := 180) rfl))) (mvT hZr7 (hw _ (List.mem_of_getElem? (i := 181) rfl))) (notFace_of_selects (args := #[]) (mvT hZr7 (hw _ (List.mem_of_getElem? (i := 183) rfl)))) (mvT hZr7 (hw _ (List.mem_of_getElem? (i := 183) rfl))) (mvT hZr7 (hw _ (List.mem_of_getElem? (i := 182) rfl))) (by decide) (backOf (W := 0) (rm_addA l Z a0 hw [] b8 b4 dc el ea em mr kd ke T9.heap n0 Z0 O hT' E_b8 Am Ae Az g_b8 E_b4) hZr7 (hw _ (List.mem_of_getElem? (i := 184) rfl)) (hw _ (List.mem_of_getElem? (i := 99) rfl)) (by decide) (by decide)) q15a q15c (g := (mkF m 98 #[.val (.int kk), .val (.int aa), .val (.int bb), .val (.int cc), .val (.int yy), .val (.int nn), .val (.int rv), .val (.ref r0), .val (.ref r1), .val (.ref r2), .val (.ref b4), .val (.ref b6), .val (.ref b8), .unset, .unset] [(.ref b4), (.ref b8)])) rfl (by rw [hml]; rfl) (Steps.refl _) (argsL := [(.ref b4)]) (rest := []) (lenOf own_pd27 rfl) rfl (by show 2 * 0 + _ ≤ _; exact Nat.le_of_eq rfl) (hb hby at_98) (fun _ _ => ⟨rfl, rfl, (by decide : 14 + 1 ≤ _), (by decide : 96 + 10 ≤ _)⟩)
      dsimp only [Pt.U, Pt.locs, Pt.cells, Pt.slots] at X15 l15 y15 z15 st15 hQ15
      subst l15 y15 z15
      obtain ⟨t, kt, rfl, N15q, Kc, szt, Bm, Be, Bz, V_t, Ov, E_t⟩ := hQ15
      have N15 := Fr.app N9 N15q
      refine own_tr (V := T15.setTop (mkF m 101 #[.val (.int kk), .val (.int aa), .val (.int bb), .val (.int cc), .val (.int yy), .val (.int nn), .val (.int rv), .val (.ref r0), .val (.ref r1), .val (.ref r2), .val (.ref b4), .val (.ref b6), .val (.ref b8), .unset, .unset] [(.int (1 : Int32))])) st15 ?_
      have g_t : n0 ≤ t := Nat.le_trans Z0 szt
      have ne_b8_t : b8 ≠ t := Nat.ne_of_lt (Nat.lt_of_lt_of_le lt_al szt)
      have ne_t_b8 := Ne.symm ne_b8_t
      have ne_b4_t : b4 ≠ t := Nat.ne_of_lt (Nat.lt_of_lt_of_le E_b4.lt szt)
      have ne_b6_t : b6 ≠ t := Nat.ne_of_lt (Nat.lt_of_lt_of_le E_b6.lt szt)
      have E_r0 := E_r0.keep Kc
      have E_r1 := E_r1.keep Kc
      have E_r2 := E_r2.keep Kc
      have E_b4 := E_b4.keep Kc
      have B_b4 := B_b4.keep Kc (ninS ne_b4_b8 nin0)
      have E_b6 := E_b6.keep Kc
      have B_b6 := B_b6.keep Kc (ninS ne_b6_b8 nin0)
      have E_b8 := E_b8.keep Kc
      have Z0 : n0 ≤ T15.heap.size := Nat.le_trans Z0 Kc.1
      have hkr7 := Nat.le_trans hkr7 Kc.1
      have O := O.keep Kc (allS g_b8 all0)
      refine own_st (V := T15.setTop (mkF m 102 #[.val (.int kk), .val (.int aa), .val (.int bb), .val (.int cc), .val (.int yy), .val (.int nn), .val (.int rv), .val (.ref r0), .val (.ref r1), .val (.ref r2), .val (.ref b4), .val (.ref b6), .val (.ref b8), .unset, .unset] [])) (fun _ hk => XS.pop X15.here hx rfl (hb hby at_101) rfl rfl hk) ?_
      refine own_st (V := T15.setTop (mkF m 104 #[.val (.int kk), .val (.int aa), .val (.int bb), .val (.int cc), .val (.int yy), .val (.int nn), .val (.int rv), .val (.ref r0), .val (.ref r1), .val (.ref r2), .val (.ref b4), .val (.ref b6), .val (.ref b8), .unset, .unset] [(.int nn)])) (fun _ hk => XS.iload X15.here hx rfl (hb hby at_102) rfl  hk) ?_
      refine own_st (V := T15.setTop (mkF m 105 #[.val (.int kk), .val (.int aa), .val (.int bb), .val (.int cc), .val (.int yy), .val (.int nn), .val (.int rv), .val (.ref r0), .val (.ref r1), .val (.ref r2), .val (.ref b4), .val (.ref b6), .val (.ref b8), .unset, .unset] [(.int (2 : Int32)), (.int nn)])) (fun _ hk => XS.iconst X15.here hx rfl (hb hby at_104) hk) ?_
      refine own_st (V := T15.setTop (mkF m 148 #[.val (.int kk), .val (.int aa), .val (.int bb), .val (.int cc), .val (.int yy), .val (.int nn), .val (.int rv), .val (.ref r0), .val (.ref r1), .val (.ref r2), .val (.ref b4), .val (.ref b6), .val (.ref b8), .unset, .unset] [])) (fun _ hk => XS.icmpYes X15.here hx rfl (pc0 := 105) (pc' := 148) rfl (hb hby at_105) rfl (feq (show ¬ (nn = (2 : Int32)) from (by rw [hz]; decide))).2 (by decide) (by decide) hk) ?_
      obtain ⟨T16, h16, X16, e16, E16, A16, D16, -, st16⟩ := newO X15 hx hZr7 hownr7 (hw _ (List.mem_of_getElem? (i := 121) rfl)) (hw _ (List.mem_of_getElem? (i := 122) rfl)) (hw _ (List.mem_of_getElem? (i := 123) rfl)) rfl (g := (mkF m 148 #[.val (.int kk), .val (.int aa), .val (.int bb), .val (.int cc), .val (.int yy), .val (.int nn), .val (.int rv), .val (.ref r0), .val (.ref r1), .val (.ref r2), .val (.ref b4), .val (.ref b6), .val (.ref b8), .unset, .unset] [])) rfl (hb hby at_148) (by decide) (by decide)
      obtain ⟨b16, g16⟩ : ∃ z, z = T15.heap.size := ⟨_, rfl⟩
      rw [← g16] at A16 D16 st16
      have ne_r0_b16 : r0 ≠ b16 := Nat.ne_of_lt (Nat.lt_of_lt_of_le E_r0.lt (Nat.le_of_eq g16.symm))
      have ne_b16_r0 : b16 ≠ r0 := Ne.symm ne_r0_b16
      have ne_r1_b16 : r1 ≠ b16 := Nat.ne_of_lt (Nat.lt_of_lt_of_le E_r1.lt (Nat.le_of_eq g16.symm))
      have ne_b16_r1 : b16 ≠ r1 := Ne.symm ne_r1_b16
      have ne_r2_b16 : r2 ≠ b16 := Nat.ne_of_lt (Nat.lt_of_lt_of_le E_r2.lt (Nat.le_of_eq g16.symm))
      have ne_b16_r2 : b16 ≠ r2 := Ne.symm ne_r2_b16
      have ne_b4_b16 : b4 ≠ b16 := Nat.ne_of_lt (Nat.lt_of_lt_of_le E_b4.lt (Nat.le_of_eq g16.symm))
      have ne_b16_b4 : b16 ≠ b4 := Ne.symm ne_b4_b16
      have ne_b6_b16 : b6 ≠ b16 := Nat.ne_of_lt (Nat.lt_of_lt_of_le E_b6.lt (Nat.le_of_eq g16.symm))
      have ne_b16_b6 : b16 ≠ b6 := Ne.symm ne_b6_b16
      have ne_b8_b16 : b8 ≠ b16 := Nat.ne_of_lt (Nat.lt_of_lt_of_le E_b8.lt (Nat.le_of_eq g16.symm))
      have ne_b16_b8 : b16 ≠ b8 := Ne.symm ne_b8_b16
      have ne_t_b16 : t ≠ b16 := Nat.ne_of_lt (Nat.lt_of_lt_of_le V_t.lt (Nat.le_of_eq g16.symm))
      have ne_b16_t : b16 ≠ t := Ne.symm ne_t_b16
      have g_b16 : n0 ≤ b16 := Nat.le_trans Z0 (Nat.le_of_eq g16.symm)
      have E_r0 := E_r0.ext E16
      have E_r1 := E_r1.ext E16
      have E_r2 := E_r2.ext E16
      have E_b4 := E_b4.ext E16
      have B_b4 := B_b4.ext E16
      have E_b6 := E_b6.ext E16
      have B_b6 := B_b6.ext E16
      have E_b8 := E_b8.ext E16
      have Bm := Bm.ext E16
      have Be := Be.ext E16
      have Bz := Bz.ext E16
      have V_t := V_t.ext E16
      have E_t := E_t.ext E16
      have O := O.ext E16
      have Z0 : n0 ≤ h16.size := Nat.le_trans Z0 E16.1
      have hkr7 := Nat.le_trans hkr7 E16.1
      have E_b16 := A16
      have F_periods_b16 : Fld Z h16 b16 "com/example/vestline/vestline/service/ServiceCount" "periods" "Ljava/util/List;" .null := D16 (Or.inr (hw _ (List.mem_of_getElem? (i := 158) rfl))) (ty := (.object "java/util/List")) (by decide)
      have F_years_b16 : Fld Z h16 b16 "com/example/vestline/vestline/service/ServiceCount" "years" "I" (.int (0 : Int32)) := D16 (Or.inr (hw _ (List.mem_of_getElem? (i := 160) rfl))) (ty := .int) (by decide)
      have F_setAsides_b16 : Fld Z h16 b16 "com/example/vestline/vestline/service/ServiceCount" "setAsides" "Ljava/util/List;" .null := D16 (Or.inr (hw _ (List.mem_of_getElem? (i := 162) rfl))) (ty := (.object "java/util/List")) (by decide)
      refine own_st (V := T16.setTop (mkF m 151 #[.val (.int kk), .val (.int aa), .val (.int bb), .val (.int cc), .val (.int yy), .val (.int nn), .val (.int rv), .val (.ref r0), .val (.ref r1), .val (.ref r2), .val (.ref b4), .val (.ref b6), .val (.ref b8), .unset, .unset] [(.ref b16)])) st16 ?_
      refine own_st (V := T16.setTop (mkF m 152 #[.val (.int kk), .val (.int aa), .val (.int bb), .val (.int cc), .val (.int yy), .val (.int nn), .val (.int rv), .val (.ref r0), .val (.ref r1), .val (.ref r2), .val (.ref b4), .val (.ref b6), .val (.ref b8), .unset, .unset] [(.ref b16), (.ref b16)])) (fun _ hk => XS.dup X16.here hx rfl (hb hby at_151) rfl rfl hk) ?_
      obtain ⟨T17, h17, X17, e17, E17, A17, D17, -, st17⟩ := newO X16 hx hZr7 hownr7 (hw _ (List.mem_of_getElem? (i := 97) rfl)) (hw _ (List.mem_of_getElem? (i := 98) rfl)) (hw _ (List.mem_of_getElem? (i := 99) rfl)) e16 (g := (mkF m 152 #[.val (.int kk), .val (.int aa), .val (.int bb), .val (.int cc), .val (.int yy), .val (.int nn), .val (.int rv), .val (.ref r0), .val (.ref r1), .val (.ref r2), .val (.ref b4), .val (.ref b6), .val (.ref b8), .unset, .unset] [(.ref b16), (.ref b16)])) rfl (hb hby at_152) (by decide) (by decide)
      obtain ⟨b17, g17⟩ : ∃ z, z = h16.size := ⟨_, rfl⟩
      rw [← g17] at A17 D17 st17
      have ne_r0_b17 : r0 ≠ b17 := Nat.ne_of_lt (Nat.lt_of_lt_of_le E_r0.lt (Nat.le_of_eq g17.symm))
      have ne_b17_r0 : b17 ≠ r0 := Ne.symm ne_r0_b17
      have ne_r1_b17 : r1 ≠ b17 := Nat.ne_of_lt (Nat.lt_of_lt_of_le E_r1.lt (Nat.le_of_eq g17.symm))
      have ne_b17_r1 : b17 ≠ r1 := Ne.symm ne_r1_b17
      have ne_r2_b17 : r2 ≠ b17 := Nat.ne_of_lt (Nat.lt_of_lt_of_le E_r2.lt (Nat.le_of_eq g17.symm))
      have ne_b17_r2 : b17 ≠ r2 := Ne.symm ne_r2_b17
      have ne_b4_b17 : b4 ≠ b17 := Nat.ne_of_lt (Nat.lt_of_lt_of_le E_b4.lt (Nat.le_of_eq g17.symm))
      have ne_b17_b4 : b17 ≠ b4 := Ne.symm ne_b4_b17
      have ne_b6_b17 : b6 ≠ b17 := Nat.ne_of_lt (Nat.lt_of_lt_of_le E_b6.lt (Nat.le_of_eq g17.symm))
      have ne_b17_b6 : b17 ≠ b6 := Ne.symm ne_b6_b17
      have ne_b8_b17 : b8 ≠ b17 := Nat.ne_of_lt (Nat.lt_of_lt_of_le E_b8.lt (Nat.le_of_eq g17.symm))
      have ne_b17_b8 : b17 ≠ b8 := Ne.symm ne_b8_b17
      have ne_t_b17 : t ≠ b17 := Nat.ne_of_lt (Nat.lt_of_lt_of_le V_t.lt (Nat.le_of_eq g17.symm))
      have ne_b17_t : b17 ≠ t := Ne.symm ne_t_b17
      have ne_b16_b17 : b16 ≠ b17 := Nat.ne_of_lt (Nat.lt_of_lt_of_le E_b16.lt (Nat.le_of_eq g17.symm))
      have ne_b17_b16 : b17 ≠ b16 := Ne.symm ne_b16_b17
      have g_b17 : n0 ≤ b17 := Nat.le_trans Z0 (Nat.le_of_eq g17.symm)
      have E_r0 := E_r0.ext E17
      have E_r1 := E_r1.ext E17
      have E_r2 := E_r2.ext E17
      have E_b4 := E_b4.ext E17
      have B_b4 := B_b4.ext E17
      have E_b6 := E_b6.ext E17
      have B_b6 := B_b6.ext E17
      have E_b8 := E_b8.ext E17
      have Bm := Bm.ext E17
      have Be := Be.ext E17
      have Bz := Bz.ext E17
      have V_t := V_t.ext E17
      have E_t := E_t.ext E17
      have E_b16 := E_b16.ext E17
      have F_periods_b16 := F_periods_b16.ext E17
      have F_years_b16 := F_years_b16.ext E17
      have F_setAsides_b16 := F_setAsides_b16.ext E17
      have O := O.ext E17
      have Z0 : n0 ≤ h17.size := Nat.le_trans Z0 E17.1
      have hkr7 := Nat.le_trans hkr7 E17.1
      have E_b17 := A17
      have F_modCount_b17 : Fld Z h17 b17 "java/util/AbstractList" "modCount" "I" (.int (0 : Int32)) := D17 (Or.inl (hw _ (List.mem_of_getElem? (i := 117) rfl))) (ty := .int) (by decide)
      have F_elementData_b17 : Fld Z h17 b17 "java/util/ArrayList" "elementData" "[Ljava/lang/Object;" .null := D17 (Or.inl (hw _ (List.mem_of_getElem? (i := 120) rfl))) (ty := (.array (.object "java/lang/Object"))) (by decide)
      have F_size_b17 : Fld Z h17 b17 "java/util/ArrayList" "size" "I" (.int (0 : Int32)) := D17 (Or.inl (hw _ (List.mem_of_getElem? (i := 152) rfl))) (ty := .int) (by decide)
      refine own_st (V := T17.setTop (mkF m 155 #[.val (.int kk), .val (.int aa), .val (.int bb), .val (.int cc), .val (.int yy), .val (.int nn), .val (.int rv), .val (.ref r0), .val (.ref r1), .val (.ref r2), .val (.ref b4), .val (.ref b6), .val (.ref b8), .unset, .unset] [(.ref b17), (.ref b16), (.ref b16)])) st17 ?_
      refine own_st (V := T17.setTop (mkF m 156 #[.val (.int kk), .val (.int aa), .val (.int bb), .val (.int cc), .val (.int yy), .val (.int nn), .val (.int rv), .val (.ref r0), .val (.ref r1), .val (.ref r2), .val (.ref b4), .val (.ref b6), .val (.ref b8), .unset, .unset] [(.ref b17), (.ref b17), (.ref b16), (.ref b16)])) (fun _ hk => XS.dup X17.here hx rfl (hb hby at_155) rfl rfl hk) ?_
      obtain ⟨_, _, ⟨T18, L18, k18, n18⟩, -, X18, ⟨Lc18, hQ18, l18, y18, z18⟩, st18⟩ := X17.specialBack hx (y := (⟨"java/util/ArrayList", "<init>", "()V"⟩ : MethodName)) rfl hownr7 (mvT hZr7 (hw _ (List.mem_of_getElem? (i := 100) rfl))) (mvT hZr7 (hw _ (List.mem_of_getElem? (i := 101) rfl))) (mvT hZr7 (hw _ (List.mem_of_getElem? (i := 102) rfl))) (by decide) (backOf (W := 3) (rm_alInit l Z a0 hw [] b17 _ _ _ dc el ea em mr kd ke h17 n0 Z0 O hT' E_b17 F_modCount_b17 F_elementData_b17 F_size_b17 g_b17) hZr7 (hw _ (List.mem_of_getElem? (i := 102) rfl)) (hw _ (List.mem_of_getElem? (i := 99) rfl)) (by decide) (by decide)) (g := (mkF m 156 #[.val (.int kk), .val (.int aa), .val (.int bb), .val (.int cc), .val (.int yy), .val (.int nn), .val (.int rv), .val (.ref r0), .val (.ref r1), .val (.ref r2), .val (.ref b4), .val (.ref b6), .val (.ref b8), .unset, .unset] [(.ref b17), (.ref b17), (.ref b16), (.ref b16)])) rfl (by rw [hml]; rfl) (Steps.refl _) (a := b17) (argsL := []) (rest := [(.ref b17), (.ref b16), (.ref b16)]) (lenOf own_pd6 rfl) rfl (by show 2 * 0 + _ ≤ _; exact Nat.le_of_eq rfl) (hb hby at_156) (fun _ _ => ⟨rfl, e17, (by decide : 17 + 0 ≤ _), (by decide : 112 + 0 ≤ _)⟩)
      dsimp only [Pt.U, Pt.locs, Pt.cells, Pt.slots] at X18 l18 y18 z18 st18 hQ18
      subst l18 y18 z18
      obtain ⟨rfl, N18q, Kc, Pm, Pe, Pz⟩ := hQ18
      have N18 := Fr.app N15 N18q
      refine own_tr (V := T18.setTop (mkF m 159 #[.val (.int kk), .val (.int aa), .val (.int bb), .val (.int cc), .val (.int yy), .val (.int nn), .val (.int rv), .val (.ref r0), .val (.ref r1), .val (.ref r2), .val (.ref b4), .val (.ref b6), .val (.ref b8), .unset, .unset] [(.ref b17), (.ref b16), (.ref b16)])) st18 ?_
      have E_r0 := E_r0.keep Kc
      have E_r1 := E_r1.keep Kc
      have E_r2 := E_r2.keep Kc
      have E_b4 := E_b4.keep Kc
      have B_b4 := B_b4.keep Kc (ninS ne_b4_b17 nin0)
      have E_b6 := E_b6.keep Kc
      have B_b6 := B_b6.keep Kc (ninS ne_b6_b17 nin0)
      have E_b8 := E_b8.keep Kc
      have Bm := Bm.keep Kc (ninS ne_b8_b17 nin0)
      have Be := Be.keep Kc (ninS ne_b8_b17 nin0)
      have Bz := Bz.keep Kc (ninS ne_b8_b17 nin0)
      have V_t := V_t.keep Kc (ninS ne_t_b17 nin0)
      have E_t := E_t.keep Kc
      have E_b16 := E_b16.keep Kc
      have F_periods_b16 := F_periods_b16.keep Kc (ninS ne_b16_b17 nin0)
      have F_years_b16 := F_years_b16.keep Kc (ninS ne_b16_b17 nin0)
      have F_setAsides_b16 := F_setAsides_b16.keep Kc (ninS ne_b16_b17 nin0)
      have E_b17 := E_b17.keep Kc
      have Z0 : n0 ≤ T18.heap.size := Nat.le_trans Z0 Kc.1
      have hkr7 := Nat.le_trans hkr7 Kc.1
      have O := O.keep Kc (allS g_b17 all0)
      refine own_st (V := T18.setTop (mkF m 161 #[.val (.int kk), .val (.int aa), .val (.int bb), .val (.int cc), .val (.int yy), .val (.int nn), .val (.int rv), .val (.ref r0), .val (.ref r1), .val (.ref r2), .val (.ref b4), .val (.ref b6), .val (.ref b8), .unset, .unset] [(.int yy), (.ref b17), (.ref b16), (.ref b16)])) (fun _ hk => XS.iload X18.here hx rfl (hb hby at_159) rfl  hk) ?_
      refine own_st (V := T18.setTop (mkF m 163 #[.val (.int kk), .val (.int aa), .val (.int bb), .val (.int cc), .val (.int yy), .val (.int nn), .val (.int rv), .val (.ref r0), .val (.ref r1), .val (.ref r2), .val (.ref b4), .val (.ref b6), .val (.ref b8), .unset, .unset] [(.ref b8), (.int yy), (.ref b17), (.ref b16), (.ref b16)])) (fun _ hk => XS.aload X18.here hx rfl (hb hby at_161) rfl rfl hk) ?_
      obtain ⟨_, _, ⟨T19, L19, k19, n19⟩, -, X19, ⟨Lc19, hQ19, l19, y19, z19⟩, st19⟩ := X18.specialBack hx (y := (⟨"com/example/vestline/vestline/service/ServiceCount", "<init>", "(Ljava/util/List;ILjava/util/List;)V"⟩ : MethodName)) rfl hownr7 (mvT hZr7 (hw _ (List.mem_of_getElem? (i := 124) rfl))) (mvT hZr7 (hw _ (List.mem_of_getElem? (i := 125) rfl))) (mvT hZr7 (hw _ (List.mem_of_getElem? (i := 126) rfl))) (by decide) (backOf (W := 1) (rm_scInit1 l Z a0 hw [] b16 b17 yy _ _ _ b8 t b4 kt dc el ea em mr kd ke T18.heap n0 Z0 O hT' E_b16 F_periods_b16 F_years_b16 F_setAsides_b16 g_b16 E_b17 Pz E_b8 Bz Be V_t E_t E_b4) hZr7 (hw _ (List.mem_of_getElem? (i := 126) rfl)) (hw _ (List.mem_of_getElem? (i := 123) rfl)) (by decide) (by decide)) (g := (mkF m 163 #[.val (.int kk), .val (.int aa), .val (.int bb), .val (.int cc), .val (.int yy), .val (.int nn), .val (.int rv), .val (.ref r0), .val (.ref r1), .val (.ref r2), .val (.ref b4), .val (.ref b6), .val (.ref b8), .unset, .unset] [(.ref b8), (.int yy), (.ref b17), (.ref b16), (.ref b16)])) rfl (by rw [hml]; rfl) (Steps.refl _) (a := b16) (argsL := [(.ref b17), (.int yy), (.ref b8)]) (rest := [(.ref b16)]) (lenOf own_pd26 rfl) rfl (by show 2 * 0 + _ ≤ _; exact Nat.le_of_eq rfl) (hb hby at_163) (fun _ _ => ⟨rfl, rfl, (by decide : 17 + 2 ≤ _), (by decide : 112 + 3 ≤ _)⟩)
      dsimp only [Pt.U, Pt.locs, Pt.cells, Pt.slots] at X19 l19 y19 z19 st19 hQ19
      subst l19 y19 z19
      obtain ⟨rl, rfl, N19q, Kc, szl, Fs, E_rl, G_0, G_1⟩ := hQ19
      have N19 := Fr.app N18 N19q
      refine own_tr (V := T19.setTop (mkF m 166 #[.val (.int kk), .val (.int aa), .val (.int bb), .val (.int cc), .val (.int yy), .val (.int nn), .val (.int rv), .val (.ref r0), .val (.ref r1), .val (.ref r2), .val (.ref b4), .val (.ref b6), .val (.ref b8), .unset, .unset] [(.ref b16)])) st19 ?_
      have E_r0 := E_r0.keep Kc
      have E_r1 := E_r1.keep Kc
      have E_r2 := E_r2.keep Kc
      have E_b4 := E_b4.keep Kc
      have B_b4 := B_b4.keep Kc (ninS ne_b4_b16 nin0)
      have E_b6 := E_b6.keep Kc
      have B_b6 := B_b6.keep Kc (ninS ne_b6_b16 nin0)
      have E_b8 := E_b8.keep Kc
      have Bm := Bm.keep Kc (ninS ne_b8_b16 nin0)
      have Be := Be.keep Kc (ninS ne_b8_b16 nin0)
      have Bz := Bz.keep Kc (ninS ne_b8_b16 nin0)
      have V_t := V_t.keep Kc (ninS ne_t_b16 nin0)
      have E_t := E_t.keep Kc
      have E_b16 := E_b16.keep Kc
      have E_b17 := E_b17.keep Kc
      have Pm := Pm.keep Kc (ninS ne_b17_b16 nin0)
      have Pe := Pe.keep Kc (ninS ne_b17_b16 nin0)
      have Pz := Pz.keep Kc (ninS ne_b17_b16 nin0)
      have Z0 : n0 ≤ T19.heap.size := Nat.le_trans Z0 Kc.1
      have hkr7 := Nat.le_trans hkr7 Kc.1
      have O := O.keep Kc (allS g_b16 all0)
      refine own_st (V := T19.setTop (mkF m 168 #[.val (.int kk), .val (.int aa), .val (.int bb), .val (.int cc), .val (.int yy), .val (.int nn), .val (.int rv), .val (.ref r0), .val (.ref r1), .val (.ref r2), .val (.ref b4), .val (.ref b6), .val (.ref b8), .val (.ref b16), .unset] [])) (fun _ hk => XS.astore X19.here hx rfl (hb hby at_166) rfl rfl (l' := #[.val (.int kk), .val (.int aa), .val (.int bb), .val (.int cc), .val (.int yy), .val (.int nn), .val (.int rv), .val (.ref r0), .val (.ref r1), .val (.ref r2), .val (.ref b4), .val (.ref b6), .val (.ref b8), .val (.ref b16), .unset]) rfl hk) ?_
      refine own_st (V := T19.setTop (mkF m 170 #[.val (.int kk), .val (.int aa), .val (.int bb), .val (.int cc), .val (.int yy), .val (.int nn), .val (.int rv), .val (.ref r0), .val (.ref r1), .val (.ref r2), .val (.ref b4), .val (.ref b6), .val (.ref b8), .val (.ref b16), .unset] [(.ref b16)])) (fun _ hk => XS.aload X19.here hx rfl (hb hby at_168) rfl rfl hk) ?_
      obtain ⟨cq20, kq20, q20a, q20b, q20c⟩ := isOf hZr7 rfl E_b16
      obtain ⟨_, _, ⟨T20, L20, k20, n20⟩, -, X20, ⟨Lc20, hQ20, l20, y20, z20⟩, st20⟩ := X19.virtualBack hx (y := (⟨"com/example/vestline/vestline/service/ServiceCount", "setAsideBefore", "()Ljava/time/LocalDate;"⟩ : MethodName)) (z := (⟨"com/example/vestline/vestline/service/ServiceCount", "setAsideBefore", "()Ljava/time/LocalDate;"⟩ : MethodName)) hownr7 (mvT hZr7 (hw _ (List.mem_of_getElem? (i := 163) rfl))) (mvT hZr7 (hw _ (List.mem_of_getElem? (i := 164) rfl))) (notFace_of_selects (args := #[]) (mvT hZr7 (hw _ (List.mem_of_getElem? (i := 166) rfl)))) (mvT hZr7 (hw _ (List.mem_of_getElem? (i := 166) rfl))) (mvT hZr7 (hw _ (List.mem_of_getElem? (i := 165) rfl))) (by decide) (backOf (W := 0) (rm_sab1 l Z a0 hw [] b16 rl b4 r0 dc el ea em mr kd ke T19.heap n0 Z0 O hT' Fs E_rl G_0 G_1 E_b4 B_b4) hZr7 (hw _ (List.mem_of_getElem? (i := 167) rfl)) (hw _ (List.mem_of_getElem? (i := 123) rfl)) (by decide) (by decide)) q20a q20c (g := (mkF m 170 #[.val (.int kk), .val (.int aa), .val (.int bb), .val (.int cc), .val (.int yy), .val (.int nn), .val (.int rv), .val (.ref r0), .val (.ref r1), .val (.ref r2), .val (.ref b4), .val (.ref b6), .val (.ref b8), .val (.ref b16), .unset] [(.ref b16)])) rfl (by rw [hml]; rfl) (Steps.refl _) (argsL := []) (rest := []) (lenOf own_pd23 rfl) rfl (by show 2 * 0 + _ ≤ _; exact Nat.le_of_eq rfl) (hb hby at_170) (fun _ _ => ⟨rfl, rfl, (by decide : 19 + 0 ≤ _), (by decide : 115 + 0 ≤ _)⟩)
      dsimp only [Pt.U, Pt.locs, Pt.cells, Pt.slots] at X20 l20 y20 z20 st20 hQ20
      subst l20 y20 z20
      obtain ⟨rfl, N20q, es20⟩ := hQ20
      have N20 := Fr.app N19 N20q
      refine own_tr (V := T20.setTop (mkF m 173 #[.val (.int kk), .val (.int aa), .val (.int bb), .val (.int cc), .val (.int yy), .val (.int nn), .val (.int rv), .val (.ref r0), .val (.ref r1), .val (.ref r2), .val (.ref b4), .val (.ref b6), .val (.ref b8), .val (.ref b16), .unset] [(.ref r0)])) st20 ?_
      refine own_st (V := T20.setTop (mkF m 175 #[.val (.int kk), .val (.int aa), .val (.int bb), .val (.int cc), .val (.int yy), .val (.int nn), .val (.int rv), .val (.ref r0), .val (.ref r1), .val (.ref r2), .val (.ref b4), .val (.ref b6), .val (.ref b8), .val (.ref b16), .val (.ref r0)] [])) (fun _ hk => XS.astore X20.here hx rfl (hb hby at_173) rfl rfl (l' := #[.val (.int kk), .val (.int aa), .val (.int bb), .val (.int cc), .val (.int yy), .val (.int nn), .val (.int rv), .val (.ref r0), .val (.ref r1), .val (.ref r2), .val (.ref b4), .val (.ref b6), .val (.ref b8), .val (.ref b16), .val (.ref r0)]) rfl hk) ?_
      refine own_st (V := T20.setTop (mkF m 177 #[.val (.int kk), .val (.int aa), .val (.int bb), .val (.int cc), .val (.int yy), .val (.int nn), .val (.int rv), .val (.ref r0), .val (.ref r1), .val (.ref r2), .val (.ref b4), .val (.ref b6), .val (.ref b8), .val (.ref b16), .val (.ref r0)] [(.int nn)])) (fun _ hk => XS.iload X20.here hx rfl (hb hby at_175) rfl  hk) ?_
      refine own_st (V := T20.setTop (mkF m 191 #[.val (.int kk), .val (.int aa), .val (.int bb), .val (.int cc), .val (.int yy), .val (.int nn), .val (.int rv), .val (.ref r0), .val (.ref r1), .val (.ref r2), .val (.ref b4), .val (.ref b6), .val (.ref b8), .val (.ref b16), .val (.ref r0)] [])) (fun _ hk => XS.ifYes X20.here hx rfl (pc0 := 177) (pc' := 191) rfl (hb hby at_177) rfl ((if0 _ _).trans (feq (show ¬ (nn = (0 : Int32)) from (by rw [hz]; decide))).2) (by decide) (by decide) hk) ?_
      refine own_st (V := T20.setTop (mkF m 193 #[.val (.int kk), .val (.int aa), .val (.int bb), .val (.int cc), .val (.int yy), .val (.int nn), .val (.int rv), .val (.ref r0), .val (.ref r1), .val (.ref r2), .val (.ref b4), .val (.ref b6), .val (.ref b8), .val (.ref b16), .val (.ref r0)] [(.int nn)])) (fun _ hk => XS.iload X20.here hx rfl (hb hby at_191) rfl  hk) ?_
      refine own_st (V := T20.setTop (mkF m 194 #[.val (.int kk), .val (.int aa), .val (.int bb), .val (.int cc), .val (.int yy), .val (.int nn), .val (.int rv), .val (.ref r0), .val (.ref r1), .val (.ref r2), .val (.ref b4), .val (.ref b6), .val (.ref b8), .val (.ref b16), .val (.ref r0)] [(.int (1 : Int32)), (.int nn)])) (fun _ hk => XS.iconst X20.here hx rfl (hb hby at_193) hk) ?_
      refine own_st (V := T20.setTop (mkF m 197 #[.val (.int kk), .val (.int aa), .val (.int bb), .val (.int cc), .val (.int yy), .val (.int nn), .val (.int rv), .val (.ref r0), .val (.ref r1), .val (.ref r2), .val (.ref b4), .val (.ref b6), .val (.ref b8), .val (.ref b16), .val (.ref r0)] [])) (fun _ hk => XS.icmpNo X20.here hx rfl (hb hby at_194) rfl (teq (show nn = (1 : Int32) from hz)).2 hk) ?_
      refine own_st (V := T20.setTop (mkF m 199 #[.val (.int kk), .val (.int aa), .val (.int bb), .val (.int cc), .val (.int yy), .val (.int nn), .val (.int rv), .val (.ref r0), .val (.ref r1), .val (.ref r2), .val (.ref b4), .val (.ref b6), .val (.ref b8), .val (.ref b16), .val (.ref r0)] [(.ref r0)])) (fun _ hk => XS.aload X20.here hx rfl (hb hby at_197) rfl rfl hk) ?_
      refine own_st (V := T20.setTop (mkF m 201 #[.val (.int kk), .val (.int aa), .val (.int bb), .val (.int cc), .val (.int yy), .val (.int nn), .val (.int rv), .val (.ref r0), .val (.ref r1), .val (.ref r2), .val (.ref b4), .val (.ref b6), .val (.ref b8), .val (.ref b16), .val (.ref r0)] [(.ref r0), (.ref r0)])) (fun _ hk => XS.aload X20.here hx rfl (hb hby at_199) rfl rfl hk) ?_
      refine own_st (V := T20.setTop (mkF m 204 #[.val (.int kk), .val (.int aa), .val (.int bb), .val (.int cc), .val (.int yy), .val (.int nn), .val (.int rv), .val (.ref r0), .val (.ref r1), .val (.ref r2), .val (.ref b4), .val (.ref b6), .val (.ref b8), .val (.ref b16), .val (.ref r0)] [])) (fun _ hk => Jvm.RoadKit.acmp (g := (mkF m 201 #[.val (.int kk), .val (.int aa), .val (.int bb), .val (.int cc), .val (.int yy), .val (.int nn), .val (.int rv), .val (.ref r0), .val (.ref r1), .val (.ref r2), .val (.ref b4), .val (.ref b6), .val (.ref b8), .val (.ref b16), .val (.ref r0)] [(.ref r0), (.ref r0)])) X20 hx rfl rfl rfl (pc0 := 201) (pc' := 204) (same := true) rfl (hb hby at_201) rfl (decide_eq_true rfl) (by decide) (by decide) hk) ?_
      refine own_st (V := T20.setTop (mkF m 205 #[.val (.int kk), .val (.int aa), .val (.int bb), .val (.int cc), .val (.int yy), .val (.int nn), .val (.int rv), .val (.ref r0), .val (.ref r1), .val (.ref r2), .val (.ref b4), .val (.ref b6), .val (.ref b8), .val (.ref b16), .val (.ref r0)] [(.int (1 : Int32))])) (fun _ hk => XS.iconst X20.here hx rfl (hb hby at_204) hk) ?_
      refine own_st (V := T20.setTop (mkF m 209 #[.val (.int kk), .val (.int aa), .val (.int bb), .val (.int cc), .val (.int yy), .val (.int nn), .val (.int rv), .val (.ref r0), .val (.ref r1), .val (.ref r2), .val (.ref b4), .val (.ref b6), .val (.ref b8), .val (.ref b16), .val (.ref r0)] [(.int (1 : Int32))])) (fun _ hk => XS.goto X20.here hx rfl (pc0 := 205) (pc' := 209) rfl (hb hby at_205) (by decide) (by decide) hk) ?_
      exact own_retNW X20 hSr7 (by rw [es20]; exact hkr7) hx Bd.notSynchronized Bd.returns rfl (by simp) (hb hby at_209) (by decide) (by decide) (fun U hU hV hE => hF _ _ ⟨_, _, rfl, (by rw [hU, es20]; exact ⟨rfl, N20⟩), hE⟩)
    · skip
      refine own_st (V := T9.setTop (mkF m 102 #[.val (.int kk), .val (.int aa), .val (.int bb), .val (.int cc), .val (.int yy), .val (.int nn), .val (.int rv), .val (.ref r0), .val (.ref r1), .val (.ref r2), .val (.ref b4), .val (.ref b6), .val (.ref b8), .unset, .unset] [])) (fun _ hk => XS.icmpYes X9.here hx rfl (pc0 := 91) (pc' := 102) rfl (hb hby at_91) rfl (feq (show ¬ (nn = (1 : Int32)) from (by rw [hz]; decide))).2 (by decide) (by decide) hk) ?_
      refine own_st (V := T9.setTop (mkF m 104 #[.val (.int kk), .val (.int aa), .val (.int bb), .val (.int cc), .val (.int yy), .val (.int nn), .val (.int rv), .val (.ref r0), .val (.ref r1), .val (.ref r2), .val (.ref b4), .val (.ref b6), .val (.ref b8), .unset, .unset] [(.int nn)])) (fun _ hk => XS.iload X9.here hx rfl (hb hby at_102) rfl  hk) ?_
      refine own_st (V := T9.setTop (mkF m 105 #[.val (.int kk), .val (.int aa), .val (.int bb), .val (.int cc), .val (.int yy), .val (.int nn), .val (.int rv), .val (.ref r0), .val (.ref r1), .val (.ref r2), .val (.ref b4), .val (.ref b6), .val (.ref b8), .unset, .unset] [(.int (2 : Int32)), (.int nn)])) (fun _ hk => XS.iconst X9.here hx rfl (hb hby at_104) hk) ?_
      refine own_st (V := T9.setTop (mkF m 108 #[.val (.int kk), .val (.int aa), .val (.int bb), .val (.int cc), .val (.int yy), .val (.int nn), .val (.int rv), .val (.ref r0), .val (.ref r1), .val (.ref r2), .val (.ref b4), .val (.ref b6), .val (.ref b8), .unset, .unset] [])) (fun _ hk => XS.icmpNo X9.here hx rfl (hb hby at_105) rfl (teq (show nn = (2 : Int32) from hz)).2 hk) ?_
      refine own_st (V := T9.setTop (mkF m 110 #[.val (.int kk), .val (.int aa), .val (.int bb), .val (.int cc), .val (.int yy), .val (.int nn), .val (.int rv), .val (.ref r0), .val (.ref r1), .val (.ref r2), .val (.ref b4), .val (.ref b6), .val (.ref b8), .unset, .unset] [(.int rv)])) (fun _ hk => XS.iload X9.here hx rfl (hb hby at_108) rfl  hk) ?_
      by_cases hrv : rv = (0 : Int32)
      · skip
        refine own_st (V := T9.setTop (mkF m 132 #[.val (.int kk), .val (.int aa), .val (.int bb), .val (.int cc), .val (.int yy), .val (.int nn), .val (.int rv), .val (.ref r0), .val (.ref r1), .val (.ref r2), .val (.ref b4), .val (.ref b6), .val (.ref b8), .unset, .unset] [])) (fun _ hk => XS.ifYes X9.here hx rfl (pc0 := 110) (pc' := 132) rfl (hb hby at_110) rfl ((if0 _ _).trans (teq (show rv = (0 : Int32) from hrv)).1) (by decide) (by decide) hk) ?_
        refine own_st (V := T9.setTop (mkF m 134 #[.val (.int kk), .val (.int aa), .val (.int bb), .val (.int cc), .val (.int yy), .val (.int nn), .val (.int rv), .val (.ref r0), .val (.ref r1), .val (.ref r2), .val (.ref b4), .val (.ref b6), .val (.ref b8), .unset, .unset] [(.ref b8)])) (fun _ hk => XS.aload X9.here hx rfl (hb hby at_132) rfl rfl hk) ?_
        refine own_st (V := T9.setTop (mkF m 136 #[.val (.int kk), .val (.int aa), .val (.int bb), .val (.int cc), .val (.int yy), .val (.int nn), .val (.int rv), .val (.ref r0), .val (.ref r1), .val (.ref r2), .val (.ref b4), .val (.ref b6), .val (.ref b8), .unset, .unset] [(.ref b4), (.ref b8)])) (fun _ hk => XS.aload X9.here hx rfl (hb hby at_134) rfl rfl hk) ?_
        have lt_al := E_b8.lt
        obtain ⟨cq21, kq21, q21a, q21b, q21c⟩ := isOf hZr7 rfl E_b8
        obtain ⟨_, _, ⟨T21, L21, k21, n21⟩, -, X21, ⟨Lc21, hQ21, l21, y21, z21⟩, st21⟩ := X9.virtualBack hx (y := (⟨"java/util/ArrayList", "add", "(Ljava/lang/Object;)Z"⟩ : MethodName)) (z := (⟨"java/util/ArrayList", "add", "(Ljava/lang/Object;)Z"⟩ : MethodName)) hownr7 (mvT hZr7 (hw _ (List.mem_of_getElem? (i := 180) rfl))) (mvT hZr7 (hw _ (List.mem_of_getElem? (i := 181) rfl))) (notFace_of_selects (args := #[]) (mvT hZr7 (hw _ (List.mem_of_getElem? (i := 183) rfl)))) (mvT hZr7 (hw _ (List.mem_of_getElem? (i := 183) rfl))) (mvT hZr7 (hw _ (List.mem_of_getElem? (i := 182) rfl))) (by decide) (backOf (W := 0) (rm_addA l Z a0 hw [] b8 b4 dc el ea em mr kd ke T9.heap n0 Z0 O hT' E_b8 Am Ae Az g_b8 E_b4) hZr7 (hw _ (List.mem_of_getElem? (i := 184) rfl)) (hw _ (List.mem_of_getElem? (i := 99) rfl)) (by decide) (by decide)) q21a q21c (g := (mkF m 136 #[.val (.int kk), .val (.int aa), .val (.int bb), .val (.int cc), .val (.int yy), .val (.int nn), .val (.int rv), .val (.ref r0), .val (.ref r1), .val (.ref r2), .val (.ref b4), .val (.ref b6), .val (.ref b8), .unset, .unset] [(.ref b4), (.ref b8)])) rfl (by rw [hml]; rfl) (Steps.refl _) (argsL := [(.ref b4)]) (rest := []) (lenOf own_pd27 rfl) rfl (by show 2 * 0 + _ ≤ _; exact Nat.le_of_eq rfl) (hb hby at_136) (fun _ _ => ⟨rfl, rfl, (by decide : 14 + 1 ≤ _), (by decide : 96 + 10 ≤ _)⟩)
        dsimp only [Pt.U, Pt.locs, Pt.cells, Pt.slots] at X21 l21 y21 z21 st21 hQ21
        subst l21 y21 z21
        obtain ⟨t, kt, rfl, N21q, Kc, szt, Bm, Be, Bz, V_t, Ov, E_t⟩ := hQ21
        have N21 := Fr.app N9 N21q
        refine own_tr (V := T21.setTop (mkF m 139 #[.val (.int kk), .val (.int aa), .val (.int bb), .val (.int cc), .val (.int yy), .val (.int nn), .val (.int rv), .val (.ref r0), .val (.ref r1), .val (.ref r2), .val (.ref b4), .val (.ref b6), .val (.ref b8), .unset, .unset] [(.int (1 : Int32))])) st21 ?_
        have g_t : n0 ≤ t := Nat.le_trans Z0 szt
        have ne_b8_t : b8 ≠ t := Nat.ne_of_lt (Nat.lt_of_lt_of_le lt_al szt)
        have ne_t_b8 := Ne.symm ne_b8_t
        have ne_b4_t : b4 ≠ t := Nat.ne_of_lt (Nat.lt_of_lt_of_le E_b4.lt szt)
        have ne_b6_t : b6 ≠ t := Nat.ne_of_lt (Nat.lt_of_lt_of_le E_b6.lt szt)
        have E_r0 := E_r0.keep Kc
        have E_r1 := E_r1.keep Kc
        have E_r2 := E_r2.keep Kc
        have E_b4 := E_b4.keep Kc
        have B_b4 := B_b4.keep Kc (ninS ne_b4_b8 nin0)
        have E_b6 := E_b6.keep Kc
        have B_b6 := B_b6.keep Kc (ninS ne_b6_b8 nin0)
        have E_b8 := E_b8.keep Kc
        have Z0 : n0 ≤ T21.heap.size := Nat.le_trans Z0 Kc.1
        have hkr7 := Nat.le_trans hkr7 Kc.1
        have O := O.keep Kc (allS g_b8 all0)
        refine own_st (V := T21.setTop (mkF m 140 #[.val (.int kk), .val (.int aa), .val (.int bb), .val (.int cc), .val (.int yy), .val (.int nn), .val (.int rv), .val (.ref r0), .val (.ref r1), .val (.ref r2), .val (.ref b4), .val (.ref b6), .val (.ref b8), .unset, .unset] [])) (fun _ hk => XS.pop X21.here hx rfl (hb hby at_139) rfl rfl hk) ?_
        refine own_st (V := T21.setTop (mkF m 142 #[.val (.int kk), .val (.int aa), .val (.int bb), .val (.int cc), .val (.int yy), .val (.int nn), .val (.int rv), .val (.ref r0), .val (.ref r1), .val (.ref r2), .val (.ref b4), .val (.ref b6), .val (.ref b8), .unset, .unset] [(.ref b8)])) (fun _ hk => XS.aload X21.here hx rfl (hb hby at_140) rfl rfl hk) ?_
        refine own_st (V := T21.setTop (mkF m 144 #[.val (.int kk), .val (.int aa), .val (.int bb), .val (.int cc), .val (.int yy), .val (.int nn), .val (.int rv), .val (.ref r0), .val (.ref r1), .val (.ref r2), .val (.ref b4), .val (.ref b6), .val (.ref b8), .unset, .unset] [(.ref b6), (.ref b8)])) (fun _ hk => XS.aload X21.here hx rfl (hb hby at_142) rfl rfl hk) ?_
        obtain ⟨cq22, kq22, q22a, q22b, q22c⟩ := isOf hZr7 rfl E_b8
        obtain ⟨_, _, ⟨T22, L22, k22, n22⟩, -, X22, ⟨Lc22, hQ22, l22, y22, z22⟩, st22⟩ := X21.virtualBack hx (y := (⟨"java/util/ArrayList", "add", "(Ljava/lang/Object;)Z"⟩ : MethodName)) (z := (⟨"java/util/ArrayList", "add", "(Ljava/lang/Object;)Z"⟩ : MethodName)) hownr7 (mvT hZr7 (hw _ (List.mem_of_getElem? (i := 180) rfl))) (mvT hZr7 (hw _ (List.mem_of_getElem? (i := 181) rfl))) (notFace_of_selects (args := #[]) (mvT hZr7 (hw _ (List.mem_of_getElem? (i := 183) rfl)))) (mvT hZr7 (hw _ (List.mem_of_getElem? (i := 183) rfl))) (mvT hZr7 (hw _ (List.mem_of_getElem? (i := 182) rfl))) (by decide) (backOf (W := 0) (rm_addB l Z a0 hw [] b8 t b4 b6 kt T21.heap n0 Z0 O E_b8 Bm Be Bz g_b8 V_t Ov E_t g_t ne_b8_t E_b6) hZr7 (hw _ (List.mem_of_getElem? (i := 184) rfl)) (hw _ (List.mem_of_getElem? (i := 99) rfl)) (by decide) (by decide)) q22a q22c (g := (mkF m 144 #[.val (.int kk), .val (.int aa), .val (.int bb), .val (.int cc), .val (.int yy), .val (.int nn), .val (.int rv), .val (.ref r0), .val (.ref r1), .val (.ref r2), .val (.ref b4), .val (.ref b6), .val (.ref b8), .unset, .unset] [(.ref b6), (.ref b8)])) rfl (by rw [hml]; rfl) (Steps.refl _) (argsL := [(.ref b6)]) (rest := []) (lenOf own_pd27 rfl) rfl (by show 2 * 0 + _ ≤ _; exact Nat.le_of_eq rfl) (hb hby at_144) (fun _ _ => ⟨rfl, rfl, (by decide : 15 + 0 ≤ _), (by decide : 106 + 0 ≤ _)⟩)
        dsimp only [Pt.U, Pt.locs, Pt.cells, Pt.slots] at X22 l22 y22 z22 st22 hQ22
        subst l22 y22 z22
        obtain ⟨rfl, N22q, Kc, Cm, Ce, Cz, U_t⟩ := hQ22
        have N22 := Fr.app N21 N22q
        refine own_tr (V := T22.setTop (mkF m 147 #[.val (.int kk), .val (.int aa), .val (.int bb), .val (.int cc), .val (.int yy), .val (.int nn), .val (.int rv), .val (.ref r0), .val (.ref r1), .val (.ref r2), .val (.ref b4), .val (.ref b6), .val (.ref b8), .unset, .unset] [(.int (1 : Int32))])) st22 ?_
        have E_r0 := E_r0.keep Kc
        have E_r1 := E_r1.keep Kc
        have E_r2 := E_r2.keep Kc
        have E_b4 := E_b4.keep Kc
        have B_b4 := B_b4.keep Kc (ninS ne_b4_b8 (ninS ne_b4_t nin0))
        have E_b6 := E_b6.keep Kc
        have B_b6 := B_b6.keep Kc (ninS ne_b6_b8 (ninS ne_b6_t nin0))
        have E_b8 := E_b8.keep Kc
        have E_t := E_t.keep Kc
        have Z0 : n0 ≤ T22.heap.size := Nat.le_trans Z0 Kc.1
        have hkr7 := Nat.le_trans hkr7 Kc.1
        have O := O.keep Kc (allS g_b8 (allS g_t all0))
        refine own_st (V := T22.setTop (mkF m 148 #[.val (.int kk), .val (.int aa), .val (.int bb), .val (.int cc), .val (.int yy), .val (.int nn), .val (.int rv), .val (.ref r0), .val (.ref r1), .val (.ref r2), .val (.ref b4), .val (.ref b6), .val (.ref b8), .unset, .unset] [])) (fun _ hk => XS.pop X22.here hx rfl (hb hby at_147) rfl rfl hk) ?_
        obtain ⟨T23, h23, X23, e23, E23, A23, D23, -, st23⟩ := newO X22 hx hZr7 hownr7 (hw _ (List.mem_of_getElem? (i := 121) rfl)) (hw _ (List.mem_of_getElem? (i := 122) rfl)) (hw _ (List.mem_of_getElem? (i := 123) rfl)) rfl (g := (mkF m 148 #[.val (.int kk), .val (.int aa), .val (.int bb), .val (.int cc), .val (.int yy), .val (.int nn), .val (.int rv), .val (.ref r0), .val (.ref r1), .val (.ref r2), .val (.ref b4), .val (.ref b6), .val (.ref b8), .unset, .unset] [])) rfl (hb hby at_148) (by decide) (by decide)
        obtain ⟨b23, g23⟩ : ∃ z, z = T22.heap.size := ⟨_, rfl⟩
        rw [← g23] at A23 D23 st23
        have ne_r0_b23 : r0 ≠ b23 := Nat.ne_of_lt (Nat.lt_of_lt_of_le E_r0.lt (Nat.le_of_eq g23.symm))
        have ne_b23_r0 : b23 ≠ r0 := Ne.symm ne_r0_b23
        have ne_r1_b23 : r1 ≠ b23 := Nat.ne_of_lt (Nat.lt_of_lt_of_le E_r1.lt (Nat.le_of_eq g23.symm))
        have ne_b23_r1 : b23 ≠ r1 := Ne.symm ne_r1_b23
        have ne_r2_b23 : r2 ≠ b23 := Nat.ne_of_lt (Nat.lt_of_lt_of_le E_r2.lt (Nat.le_of_eq g23.symm))
        have ne_b23_r2 : b23 ≠ r2 := Ne.symm ne_r2_b23
        have ne_b4_b23 : b4 ≠ b23 := Nat.ne_of_lt (Nat.lt_of_lt_of_le E_b4.lt (Nat.le_of_eq g23.symm))
        have ne_b23_b4 : b23 ≠ b4 := Ne.symm ne_b4_b23
        have ne_b6_b23 : b6 ≠ b23 := Nat.ne_of_lt (Nat.lt_of_lt_of_le E_b6.lt (Nat.le_of_eq g23.symm))
        have ne_b23_b6 : b23 ≠ b6 := Ne.symm ne_b6_b23
        have ne_b8_b23 : b8 ≠ b23 := Nat.ne_of_lt (Nat.lt_of_lt_of_le E_b8.lt (Nat.le_of_eq g23.symm))
        have ne_b23_b8 : b23 ≠ b8 := Ne.symm ne_b8_b23
        have ne_t_b23 : t ≠ b23 := Nat.ne_of_lt (Nat.lt_of_lt_of_le E_t.lt (Nat.le_of_eq g23.symm))
        have ne_b23_t : b23 ≠ t := Ne.symm ne_t_b23
        have g_b23 : n0 ≤ b23 := Nat.le_trans Z0 (Nat.le_of_eq g23.symm)
        have E_r0 := E_r0.ext E23
        have E_r1 := E_r1.ext E23
        have E_r2 := E_r2.ext E23
        have E_b4 := E_b4.ext E23
        have B_b4 := B_b4.ext E23
        have E_b6 := E_b6.ext E23
        have B_b6 := B_b6.ext E23
        have E_b8 := E_b8.ext E23
        have E_t := E_t.ext E23
        have Cm := Cm.ext E23
        have Ce := Ce.ext E23
        have Cz := Cz.ext E23
        have U_t := U_t.ext E23
        have O := O.ext E23
        have Z0 : n0 ≤ h23.size := Nat.le_trans Z0 E23.1
        have hkr7 := Nat.le_trans hkr7 E23.1
        have E_b23 := A23
        have F_periods_b23 : Fld Z h23 b23 "com/example/vestline/vestline/service/ServiceCount" "periods" "Ljava/util/List;" .null := D23 (Or.inr (hw _ (List.mem_of_getElem? (i := 158) rfl))) (ty := (.object "java/util/List")) (by decide)
        have F_years_b23 : Fld Z h23 b23 "com/example/vestline/vestline/service/ServiceCount" "years" "I" (.int (0 : Int32)) := D23 (Or.inr (hw _ (List.mem_of_getElem? (i := 160) rfl))) (ty := .int) (by decide)
        have F_setAsides_b23 : Fld Z h23 b23 "com/example/vestline/vestline/service/ServiceCount" "setAsides" "Ljava/util/List;" .null := D23 (Or.inr (hw _ (List.mem_of_getElem? (i := 162) rfl))) (ty := (.object "java/util/List")) (by decide)
        refine own_st (V := T23.setTop (mkF m 151 #[.val (.int kk), .val (.int aa), .val (.int bb), .val (.int cc), .val (.int yy), .val (.int nn), .val (.int rv), .val (.ref r0), .val (.ref r1), .val (.ref r2), .val (.ref b4), .val (.ref b6), .val (.ref b8), .unset, .unset] [(.ref b23)])) st23 ?_
        refine own_st (V := T23.setTop (mkF m 152 #[.val (.int kk), .val (.int aa), .val (.int bb), .val (.int cc), .val (.int yy), .val (.int nn), .val (.int rv), .val (.ref r0), .val (.ref r1), .val (.ref r2), .val (.ref b4), .val (.ref b6), .val (.ref b8), .unset, .unset] [(.ref b23), (.ref b23)])) (fun _ hk => XS.dup X23.here hx rfl (hb hby at_151) rfl rfl hk) ?_
        obtain ⟨T24, h24, X24, e24, E24, A24, D24, -, st24⟩ := newO X23 hx hZr7 hownr7 (hw _ (List.mem_of_getElem? (i := 97) rfl)) (hw _ (List.mem_of_getElem? (i := 98) rfl)) (hw _ (List.mem_of_getElem? (i := 99) rfl)) e23 (g := (mkF m 152 #[.val (.int kk), .val (.int aa), .val (.int bb), .val (.int cc), .val (.int yy), .val (.int nn), .val (.int rv), .val (.ref r0), .val (.ref r1), .val (.ref r2), .val (.ref b4), .val (.ref b6), .val (.ref b8), .unset, .unset] [(.ref b23), (.ref b23)])) rfl (hb hby at_152) (by decide) (by decide)
        obtain ⟨b24, g24⟩ : ∃ z, z = h23.size := ⟨_, rfl⟩
        rw [← g24] at A24 D24 st24
        have ne_r0_b24 : r0 ≠ b24 := Nat.ne_of_lt (Nat.lt_of_lt_of_le E_r0.lt (Nat.le_of_eq g24.symm))
        have ne_b24_r0 : b24 ≠ r0 := Ne.symm ne_r0_b24
        have ne_r1_b24 : r1 ≠ b24 := Nat.ne_of_lt (Nat.lt_of_lt_of_le E_r1.lt (Nat.le_of_eq g24.symm))
        have ne_b24_r1 : b24 ≠ r1 := Ne.symm ne_r1_b24
        have ne_r2_b24 : r2 ≠ b24 := Nat.ne_of_lt (Nat.lt_of_lt_of_le E_r2.lt (Nat.le_of_eq g24.symm))
        have ne_b24_r2 : b24 ≠ r2 := Ne.symm ne_r2_b24
        have ne_b4_b24 : b4 ≠ b24 := Nat.ne_of_lt (Nat.lt_of_lt_of_le E_b4.lt (Nat.le_of_eq g24.symm))
        have ne_b24_b4 : b24 ≠ b4 := Ne.symm ne_b4_b24
        have ne_b6_b24 : b6 ≠ b24 := Nat.ne_of_lt (Nat.lt_of_lt_of_le E_b6.lt (Nat.le_of_eq g24.symm))
        have ne_b24_b6 : b24 ≠ b6 := Ne.symm ne_b6_b24
        have ne_b8_b24 : b8 ≠ b24 := Nat.ne_of_lt (Nat.lt_of_lt_of_le E_b8.lt (Nat.le_of_eq g24.symm))
        have ne_b24_b8 : b24 ≠ b8 := Ne.symm ne_b8_b24
        have ne_t_b24 : t ≠ b24 := Nat.ne_of_lt (Nat.lt_of_lt_of_le E_t.lt (Nat.le_of_eq g24.symm))
        have ne_b24_t : b24 ≠ t := Ne.symm ne_t_b24
        have ne_b23_b24 : b23 ≠ b24 := Nat.ne_of_lt (Nat.lt_of_lt_of_le E_b23.lt (Nat.le_of_eq g24.symm))
        have ne_b24_b23 : b24 ≠ b23 := Ne.symm ne_b23_b24
        have g_b24 : n0 ≤ b24 := Nat.le_trans Z0 (Nat.le_of_eq g24.symm)
        have E_r0 := E_r0.ext E24
        have E_r1 := E_r1.ext E24
        have E_r2 := E_r2.ext E24
        have E_b4 := E_b4.ext E24
        have B_b4 := B_b4.ext E24
        have E_b6 := E_b6.ext E24
        have B_b6 := B_b6.ext E24
        have E_b8 := E_b8.ext E24
        have E_t := E_t.ext E24
        have Cm := Cm.ext E24
        have Ce := Ce.ext E24
        have Cz := Cz.ext E24
        have U_t := U_t.ext E24
        have E_b23 := E_b23.ext E24
        have F_periods_b23 := F_periods_b23.ext E24
        have F_years_b23 := F_years_b23.ext E24
        have F_setAsides_b23 := F_setAsides_b23.ext E24
        have O := O.ext E24
        have Z0 : n0 ≤ h24.size := Nat.le_trans Z0 E24.1
        have hkr7 := Nat.le_trans hkr7 E24.1
        have E_b24 := A24
        have F_modCount_b24 : Fld Z h24 b24 "java/util/AbstractList" "modCount" "I" (.int (0 : Int32)) := D24 (Or.inl (hw _ (List.mem_of_getElem? (i := 117) rfl))) (ty := .int) (by decide)
        have F_elementData_b24 : Fld Z h24 b24 "java/util/ArrayList" "elementData" "[Ljava/lang/Object;" .null := D24 (Or.inl (hw _ (List.mem_of_getElem? (i := 120) rfl))) (ty := (.array (.object "java/lang/Object"))) (by decide)
        have F_size_b24 : Fld Z h24 b24 "java/util/ArrayList" "size" "I" (.int (0 : Int32)) := D24 (Or.inl (hw _ (List.mem_of_getElem? (i := 152) rfl))) (ty := .int) (by decide)
        refine own_st (V := T24.setTop (mkF m 155 #[.val (.int kk), .val (.int aa), .val (.int bb), .val (.int cc), .val (.int yy), .val (.int nn), .val (.int rv), .val (.ref r0), .val (.ref r1), .val (.ref r2), .val (.ref b4), .val (.ref b6), .val (.ref b8), .unset, .unset] [(.ref b24), (.ref b23), (.ref b23)])) st24 ?_
        refine own_st (V := T24.setTop (mkF m 156 #[.val (.int kk), .val (.int aa), .val (.int bb), .val (.int cc), .val (.int yy), .val (.int nn), .val (.int rv), .val (.ref r0), .val (.ref r1), .val (.ref r2), .val (.ref b4), .val (.ref b6), .val (.ref b8), .unset, .unset] [(.ref b24), (.ref b24), (.ref b23), (.ref b23)])) (fun _ hk => XS.dup X24.here hx rfl (hb hby at_155) rfl rfl hk) ?_
        obtain ⟨_, _, ⟨T25, L25, k25, n25⟩, -, X25, ⟨Lc25, hQ25, l25, y25, z25⟩, st25⟩ := X24.specialBack hx (y := (⟨"java/util/ArrayList", "<init>", "()V"⟩ : MethodName)) rfl hownr7 (mvT hZr7 (hw _ (List.mem_of_getElem? (i := 100) rfl))) (mvT hZr7 (hw _ (List.mem_of_getElem? (i := 101) rfl))) (mvT hZr7 (hw _ (List.mem_of_getElem? (i := 102) rfl))) (by decide) (backOf (W := 3) (rm_alInit l Z a0 hw [] b24 _ _ _ dc el ea em mr kd ke h24 n0 Z0 O hT' E_b24 F_modCount_b24 F_elementData_b24 F_size_b24 g_b24) hZr7 (hw _ (List.mem_of_getElem? (i := 102) rfl)) (hw _ (List.mem_of_getElem? (i := 99) rfl)) (by decide) (by decide)) (g := (mkF m 156 #[.val (.int kk), .val (.int aa), .val (.int bb), .val (.int cc), .val (.int yy), .val (.int nn), .val (.int rv), .val (.ref r0), .val (.ref r1), .val (.ref r2), .val (.ref b4), .val (.ref b6), .val (.ref b8), .unset, .unset] [(.ref b24), (.ref b24), (.ref b23), (.ref b23)])) rfl (by rw [hml]; rfl) (Steps.refl _) (a := b24) (argsL := []) (rest := [(.ref b24), (.ref b23), (.ref b23)]) (lenOf own_pd6 rfl) rfl (by show 2 * 0 + _ ≤ _; exact Nat.le_of_eq rfl) (hb hby at_156) (fun _ _ => ⟨rfl, e24, (by decide : 17 + 0 ≤ _), (by decide : 112 + 0 ≤ _)⟩)
        dsimp only [Pt.U, Pt.locs, Pt.cells, Pt.slots] at X25 l25 y25 z25 st25 hQ25
        subst l25 y25 z25
        obtain ⟨rfl, N25q, Kc, Pm, Pe, Pz⟩ := hQ25
        have N25 := Fr.app N22 N25q
        refine own_tr (V := T25.setTop (mkF m 159 #[.val (.int kk), .val (.int aa), .val (.int bb), .val (.int cc), .val (.int yy), .val (.int nn), .val (.int rv), .val (.ref r0), .val (.ref r1), .val (.ref r2), .val (.ref b4), .val (.ref b6), .val (.ref b8), .unset, .unset] [(.ref b24), (.ref b23), (.ref b23)])) st25 ?_
        have E_r0 := E_r0.keep Kc
        have E_r1 := E_r1.keep Kc
        have E_r2 := E_r2.keep Kc
        have E_b4 := E_b4.keep Kc
        have B_b4 := B_b4.keep Kc (ninS ne_b4_b24 nin0)
        have E_b6 := E_b6.keep Kc
        have B_b6 := B_b6.keep Kc (ninS ne_b6_b24 nin0)
        have E_b8 := E_b8.keep Kc
        have E_t := E_t.keep Kc
        have Cm := Cm.keep Kc (ninS ne_b8_b24 nin0)
        have Ce := Ce.keep Kc (ninS ne_b8_b24 nin0)
        have Cz := Cz.keep Kc (ninS ne_b8_b24 nin0)
        have U_t := U_t.keep Kc (ninS ne_t_b24 nin0)
        have E_b23 := E_b23.keep Kc
        have F_periods_b23 := F_periods_b23.keep Kc (ninS ne_b23_b24 nin0)
        have F_years_b23 := F_years_b23.keep Kc (ninS ne_b23_b24 nin0)
        have F_setAsides_b23 := F_setAsides_b23.keep Kc (ninS ne_b23_b24 nin0)
        have E_b24 := E_b24.keep Kc
        have Z0 : n0 ≤ T25.heap.size := Nat.le_trans Z0 Kc.1
        have hkr7 := Nat.le_trans hkr7 Kc.1
        have O := O.keep Kc (allS g_b24 all0)
        refine own_st (V := T25.setTop (mkF m 161 #[.val (.int kk), .val (.int aa), .val (.int bb), .val (.int cc), .val (.int yy), .val (.int nn), .val (.int rv), .val (.ref r0), .val (.ref r1), .val (.ref r2), .val (.ref b4), .val (.ref b6), .val (.ref b8), .unset, .unset] [(.int yy), (.ref b24), (.ref b23), (.ref b23)])) (fun _ hk => XS.iload X25.here hx rfl (hb hby at_159) rfl  hk) ?_
        refine own_st (V := T25.setTop (mkF m 163 #[.val (.int kk), .val (.int aa), .val (.int bb), .val (.int cc), .val (.int yy), .val (.int nn), .val (.int rv), .val (.ref r0), .val (.ref r1), .val (.ref r2), .val (.ref b4), .val (.ref b6), .val (.ref b8), .unset, .unset] [(.ref b8), (.int yy), (.ref b24), (.ref b23), (.ref b23)])) (fun _ hk => XS.aload X25.here hx rfl (hb hby at_161) rfl rfl hk) ?_
        obtain ⟨_, _, ⟨T26, L26, k26, n26⟩, -, X26, ⟨Lc26, hQ26, l26, y26, z26⟩, st26⟩ := X25.specialBack hx (y := (⟨"com/example/vestline/vestline/service/ServiceCount", "<init>", "(Ljava/util/List;ILjava/util/List;)V"⟩ : MethodName)) rfl hownr7 (mvT hZr7 (hw _ (List.mem_of_getElem? (i := 124) rfl))) (mvT hZr7 (hw _ (List.mem_of_getElem? (i := 125) rfl))) (mvT hZr7 (hw _ (List.mem_of_getElem? (i := 126) rfl))) (by decide) (backOf (W := 1) (rm_scInit2 l Z a0 hw [] b23 b24 yy _ _ _ b8 t b4 b6 kt dc el ea em mr kd ke T25.heap n0 Z0 O hT' E_b23 F_periods_b23 F_years_b23 F_setAsides_b23 g_b23 E_b24 Pz E_b8 Cz Ce U_t E_t E_b4 E_b6) hZr7 (hw _ (List.mem_of_getElem? (i := 126) rfl)) (hw _ (List.mem_of_getElem? (i := 123) rfl)) (by decide) (by decide)) (g := (mkF m 163 #[.val (.int kk), .val (.int aa), .val (.int bb), .val (.int cc), .val (.int yy), .val (.int nn), .val (.int rv), .val (.ref r0), .val (.ref r1), .val (.ref r2), .val (.ref b4), .val (.ref b6), .val (.ref b8), .unset, .unset] [(.ref b8), (.int yy), (.ref b24), (.ref b23), (.ref b23)])) rfl (by rw [hml]; rfl) (Steps.refl _) (a := b23) (argsL := [(.ref b24), (.int yy), (.ref b8)]) (rest := [(.ref b23)]) (lenOf own_pd26 rfl) rfl (by show 2 * 0 + _ ≤ _; exact Nat.le_of_eq rfl) (hb hby at_163) (fun _ _ => ⟨rfl, rfl, (by decide : 17 + 2 ≤ _), (by decide : 112 + 4 ≤ _)⟩)
        dsimp only [Pt.U, Pt.locs, Pt.cells, Pt.slots] at X26 l26 y26 z26 st26 hQ26
        subst l26 y26 z26
        obtain ⟨rl, rfl, N26q, Kc, szl, Fs, E_rl, G_0, G_1⟩ := hQ26
        have N26 := Fr.app N25 N26q
        refine own_tr (V := T26.setTop (mkF m 166 #[.val (.int kk), .val (.int aa), .val (.int bb), .val (.int cc), .val (.int yy), .val (.int nn), .val (.int rv), .val (.ref r0), .val (.ref r1), .val (.ref r2), .val (.ref b4), .val (.ref b6), .val (.ref b8), .unset, .unset] [(.ref b23)])) st26 ?_
        have E_r0 := E_r0.keep Kc
        have E_r1 := E_r1.keep Kc
        have E_r2 := E_r2.keep Kc
        have E_b4 := E_b4.keep Kc
        have B_b4 := B_b4.keep Kc (ninS ne_b4_b23 nin0)
        have E_b6 := E_b6.keep Kc
        have B_b6 := B_b6.keep Kc (ninS ne_b6_b23 nin0)
        have E_b8 := E_b8.keep Kc
        have E_t := E_t.keep Kc
        have Cm := Cm.keep Kc (ninS ne_b8_b23 nin0)
        have Ce := Ce.keep Kc (ninS ne_b8_b23 nin0)
        have Cz := Cz.keep Kc (ninS ne_b8_b23 nin0)
        have U_t := U_t.keep Kc (ninS ne_t_b23 nin0)
        have E_b23 := E_b23.keep Kc
        have E_b24 := E_b24.keep Kc
        have Pm := Pm.keep Kc (ninS ne_b24_b23 nin0)
        have Pe := Pe.keep Kc (ninS ne_b24_b23 nin0)
        have Pz := Pz.keep Kc (ninS ne_b24_b23 nin0)
        have Z0 : n0 ≤ T26.heap.size := Nat.le_trans Z0 Kc.1
        have hkr7 := Nat.le_trans hkr7 Kc.1
        have O := O.keep Kc (allS g_b23 all0)
        refine own_st (V := T26.setTop (mkF m 168 #[.val (.int kk), .val (.int aa), .val (.int bb), .val (.int cc), .val (.int yy), .val (.int nn), .val (.int rv), .val (.ref r0), .val (.ref r1), .val (.ref r2), .val (.ref b4), .val (.ref b6), .val (.ref b8), .val (.ref b23), .unset] [])) (fun _ hk => XS.astore X26.here hx rfl (hb hby at_166) rfl rfl (l' := #[.val (.int kk), .val (.int aa), .val (.int bb), .val (.int cc), .val (.int yy), .val (.int nn), .val (.int rv), .val (.ref r0), .val (.ref r1), .val (.ref r2), .val (.ref b4), .val (.ref b6), .val (.ref b8), .val (.ref b23), .unset]) rfl hk) ?_
        refine own_st (V := T26.setTop (mkF m 170 #[.val (.int kk), .val (.int aa), .val (.int bb), .val (.int cc), .val (.int yy), .val (.int nn), .val (.int rv), .val (.ref r0), .val (.ref r1), .val (.ref r2), .val (.ref b4), .val (.ref b6), .val (.ref b8), .val (.ref b23), .unset] [(.ref b23)])) (fun _ hk => XS.aload X26.here hx rfl (hb hby at_168) rfl rfl hk) ?_
        have hne : ¬ b6 = em := E_b6.ne (Eem.ext O.2) (by decide)
        obtain ⟨cq27, kq27, q27a, q27b, q27c⟩ := isOf hZr7 rfl E_b23
        obtain ⟨_, _, ⟨T27, L27, k27, n27⟩, -, X27, ⟨Lc27, hQ27, l27, y27, z27⟩, st27⟩ := X26.virtualBack hx (y := (⟨"com/example/vestline/vestline/service/ServiceCount", "setAsideBefore", "()Ljava/time/LocalDate;"⟩ : MethodName)) (z := (⟨"com/example/vestline/vestline/service/ServiceCount", "setAsideBefore", "()Ljava/time/LocalDate;"⟩ : MethodName)) hownr7 (mvT hZr7 (hw _ (List.mem_of_getElem? (i := 163) rfl))) (mvT hZr7 (hw _ (List.mem_of_getElem? (i := 164) rfl))) (notFace_of_selects (args := #[]) (mvT hZr7 (hw _ (List.mem_of_getElem? (i := 166) rfl)))) (mvT hZr7 (hw _ (List.mem_of_getElem? (i := 166) rfl))) (mvT hZr7 (hw _ (List.mem_of_getElem? (i := 165) rfl))) (by decide) (backOf (W := 0) (rm_sab2 l Z a0 hw [] b23 rl b4 b6 r1 dc el ea em mr kd ke T26.heap n0 Z0 O hT' Fs E_rl G_0 G_1 E_b6 B_b6 hne) hZr7 (hw _ (List.mem_of_getElem? (i := 167) rfl)) (hw _ (List.mem_of_getElem? (i := 123) rfl)) (by decide) (by decide)) q27a q27c (g := (mkF m 170 #[.val (.int kk), .val (.int aa), .val (.int bb), .val (.int cc), .val (.int yy), .val (.int nn), .val (.int rv), .val (.ref r0), .val (.ref r1), .val (.ref r2), .val (.ref b4), .val (.ref b6), .val (.ref b8), .val (.ref b23), .unset] [(.ref b23)])) rfl (by rw [hml]; rfl) (Steps.refl _) (argsL := []) (rest := []) (lenOf own_pd23 rfl) rfl (by show 2 * 0 + _ ≤ _; exact Nat.le_of_eq rfl) (hb hby at_170) (fun _ _ => ⟨rfl, rfl, (by decide : 19 + 0 ≤ _), (by decide : 116 + 0 ≤ _)⟩)
        dsimp only [Pt.U, Pt.locs, Pt.cells, Pt.slots] at X27 l27 y27 z27 st27 hQ27
        subst l27 y27 z27
        obtain ⟨rfl, N27q, es27⟩ := hQ27
        have N27 := Fr.app N26 N27q
        refine own_tr (V := T27.setTop (mkF m 173 #[.val (.int kk), .val (.int aa), .val (.int bb), .val (.int cc), .val (.int yy), .val (.int nn), .val (.int rv), .val (.ref r0), .val (.ref r1), .val (.ref r2), .val (.ref b4), .val (.ref b6), .val (.ref b8), .val (.ref b23), .unset] [(.ref r1)])) st27 ?_
        refine own_st (V := T27.setTop (mkF m 175 #[.val (.int kk), .val (.int aa), .val (.int bb), .val (.int cc), .val (.int yy), .val (.int nn), .val (.int rv), .val (.ref r0), .val (.ref r1), .val (.ref r2), .val (.ref b4), .val (.ref b6), .val (.ref b8), .val (.ref b23), .val (.ref r1)] [])) (fun _ hk => XS.astore X27.here hx rfl (hb hby at_173) rfl rfl (l' := #[.val (.int kk), .val (.int aa), .val (.int bb), .val (.int cc), .val (.int yy), .val (.int nn), .val (.int rv), .val (.ref r0), .val (.ref r1), .val (.ref r2), .val (.ref b4), .val (.ref b6), .val (.ref b8), .val (.ref b23), .val (.ref r1)]) rfl hk) ?_
        refine own_st (V := T27.setTop (mkF m 177 #[.val (.int kk), .val (.int aa), .val (.int bb), .val (.int cc), .val (.int yy), .val (.int nn), .val (.int rv), .val (.ref r0), .val (.ref r1), .val (.ref r2), .val (.ref b4), .val (.ref b6), .val (.ref b8), .val (.ref b23), .val (.ref r1)] [(.int nn)])) (fun _ hk => XS.iload X27.here hx rfl (hb hby at_175) rfl  hk) ?_
        refine own_st (V := T27.setTop (mkF m 191 #[.val (.int kk), .val (.int aa), .val (.int bb), .val (.int cc), .val (.int yy), .val (.int nn), .val (.int rv), .val (.ref r0), .val (.ref r1), .val (.ref r2), .val (.ref b4), .val (.ref b6), .val (.ref b8), .val (.ref b23), .val (.ref r1)] [])) (fun _ hk => XS.ifYes X27.here hx rfl (pc0 := 177) (pc' := 191) rfl (hb hby at_177) rfl ((if0 _ _).trans (feq (show ¬ (nn = (0 : Int32)) from (by rw [hz]; decide))).2) (by decide) (by decide) hk) ?_
        refine own_st (V := T27.setTop (mkF m 193 #[.val (.int kk), .val (.int aa), .val (.int bb), .val (.int cc), .val (.int yy), .val (.int nn), .val (.int rv), .val (.ref r0), .val (.ref r1), .val (.ref r2), .val (.ref b4), .val (.ref b6), .val (.ref b8), .val (.ref b23), .val (.ref r1)] [(.int nn)])) (fun _ hk => XS.iload X27.here hx rfl (hb hby at_191) rfl  hk) ?_
        refine own_st (V := T27.setTop (mkF m 194 #[.val (.int kk), .val (.int aa), .val (.int bb), .val (.int cc), .val (.int yy), .val (.int nn), .val (.int rv), .val (.ref r0), .val (.ref r1), .val (.ref r2), .val (.ref b4), .val (.ref b6), .val (.ref b8), .val (.ref b23), .val (.ref r1)] [(.int (1 : Int32)), (.int nn)])) (fun _ hk => XS.iconst X27.here hx rfl (hb hby at_193) hk) ?_
        refine own_st (V := T27.setTop (mkF m 210 #[.val (.int kk), .val (.int aa), .val (.int bb), .val (.int cc), .val (.int yy), .val (.int nn), .val (.int rv), .val (.ref r0), .val (.ref r1), .val (.ref r2), .val (.ref b4), .val (.ref b6), .val (.ref b8), .val (.ref b23), .val (.ref r1)] [])) (fun _ hk => XS.icmpYes X27.here hx rfl (pc0 := 194) (pc' := 210) rfl (hb hby at_194) rfl (feq (show ¬ (nn = (1 : Int32)) from (by rw [hz]; decide))).2 (by decide) (by decide) hk) ?_
        refine own_st (V := T27.setTop (mkF m 212 #[.val (.int kk), .val (.int aa), .val (.int bb), .val (.int cc), .val (.int yy), .val (.int nn), .val (.int rv), .val (.ref r0), .val (.ref r1), .val (.ref r2), .val (.ref b4), .val (.ref b6), .val (.ref b8), .val (.ref b23), .val (.ref r1)] [(.int rv)])) (fun _ hk => XS.iload X27.here hx rfl (hb hby at_210) rfl  hk) ?_
        refine own_st (V := T27.setTop (mkF m 228 #[.val (.int kk), .val (.int aa), .val (.int bb), .val (.int cc), .val (.int yy), .val (.int nn), .val (.int rv), .val (.ref r0), .val (.ref r1), .val (.ref r2), .val (.ref b4), .val (.ref b6), .val (.ref b8), .val (.ref b23), .val (.ref r1)] [])) (fun _ hk => XS.ifYes X27.here hx rfl (pc0 := 212) (pc' := 228) rfl (hb hby at_212) rfl ((if0 _ _).trans (teq (show rv = (0 : Int32) from hrv)).1) (by decide) (by decide) hk) ?_
        refine own_st (V := T27.setTop (mkF m 230 #[.val (.int kk), .val (.int aa), .val (.int bb), .val (.int cc), .val (.int yy), .val (.int nn), .val (.int rv), .val (.ref r0), .val (.ref r1), .val (.ref r2), .val (.ref b4), .val (.ref b6), .val (.ref b8), .val (.ref b23), .val (.ref r1)] [(.ref r1)])) (fun _ hk => XS.aload X27.here hx rfl (hb hby at_228) rfl rfl hk) ?_
        refine own_st (V := T27.setTop (mkF m 232 #[.val (.int kk), .val (.int aa), .val (.int bb), .val (.int cc), .val (.int yy), .val (.int nn), .val (.int rv), .val (.ref r0), .val (.ref r1), .val (.ref r2), .val (.ref b4), .val (.ref b6), .val (.ref b8), .val (.ref b23), .val (.ref r1)] [(.ref r1), (.ref r1)])) (fun _ hk => XS.aload X27.here hx rfl (hb hby at_230) rfl rfl hk) ?_
        refine own_st (V := T27.setTop (mkF m 235 #[.val (.int kk), .val (.int aa), .val (.int bb), .val (.int cc), .val (.int yy), .val (.int nn), .val (.int rv), .val (.ref r0), .val (.ref r1), .val (.ref r2), .val (.ref b4), .val (.ref b6), .val (.ref b8), .val (.ref b23), .val (.ref r1)] [])) (fun _ hk => Jvm.RoadKit.acmp (g := (mkF m 232 #[.val (.int kk), .val (.int aa), .val (.int bb), .val (.int cc), .val (.int yy), .val (.int nn), .val (.int rv), .val (.ref r0), .val (.ref r1), .val (.ref r2), .val (.ref b4), .val (.ref b6), .val (.ref b8), .val (.ref b23), .val (.ref r1)] [(.ref r1), (.ref r1)])) X27 hx rfl rfl rfl (pc0 := 232) (pc' := 235) (same := true) rfl (hb hby at_232) rfl (decide_eq_true rfl) (by decide) (by decide) hk) ?_
        refine own_st (V := T27.setTop (mkF m 236 #[.val (.int kk), .val (.int aa), .val (.int bb), .val (.int cc), .val (.int yy), .val (.int nn), .val (.int rv), .val (.ref r0), .val (.ref r1), .val (.ref r2), .val (.ref b4), .val (.ref b6), .val (.ref b8), .val (.ref b23), .val (.ref r1)] [(.int (1 : Int32))])) (fun _ hk => XS.iconst X27.here hx rfl (hb hby at_235) hk) ?_
        refine own_st (V := T27.setTop (mkF m 240 #[.val (.int kk), .val (.int aa), .val (.int bb), .val (.int cc), .val (.int yy), .val (.int nn), .val (.int rv), .val (.ref r0), .val (.ref r1), .val (.ref r2), .val (.ref b4), .val (.ref b6), .val (.ref b8), .val (.ref b23), .val (.ref r1)] [(.int (1 : Int32))])) (fun _ hk => XS.goto X27.here hx rfl (pc0 := 236) (pc' := 240) rfl (hb hby at_236) (by decide) (by decide) hk) ?_
        exact own_retNW X27 hSr7 (by rw [es27]; exact hkr7) hx Bd.notSynchronized Bd.returns rfl (by simp) (hb hby at_240) (by decide) (by decide) (fun U hU hV hE => hF _ _ ⟨_, _, rfl, (by rw [hU, es27]; exact ⟨rfl, N27⟩), hE⟩)
      · skip
        refine own_st (V := T9.setTop (mkF m 113 #[.val (.int kk), .val (.int aa), .val (.int bb), .val (.int cc), .val (.int yy), .val (.int nn), .val (.int rv), .val (.ref r0), .val (.ref r1), .val (.ref r2), .val (.ref b4), .val (.ref b6), .val (.ref b8), .unset, .unset] [])) (fun _ hk => XS.ifNo X9.here hx rfl (hb hby at_110) rfl ((if0 _ _).trans (feq (show ¬ (rv = (0 : Int32)) from hrv)).1) hk) ?_
        refine own_st (V := T9.setTop (mkF m 115 #[.val (.int kk), .val (.int aa), .val (.int bb), .val (.int cc), .val (.int yy), .val (.int nn), .val (.int rv), .val (.ref r0), .val (.ref r1), .val (.ref r2), .val (.ref b4), .val (.ref b6), .val (.ref b8), .unset, .unset] [(.ref b8)])) (fun _ hk => XS.aload X9.here hx rfl (hb hby at_113) rfl rfl hk) ?_
        refine own_st (V := T9.setTop (mkF m 117 #[.val (.int kk), .val (.int aa), .val (.int bb), .val (.int cc), .val (.int yy), .val (.int nn), .val (.int rv), .val (.ref r0), .val (.ref r1), .val (.ref r2), .val (.ref b4), .val (.ref b6), .val (.ref b8), .unset, .unset] [(.ref b6), (.ref b8)])) (fun _ hk => XS.aload X9.here hx rfl (hb hby at_115) rfl rfl hk) ?_
        have lt_al := E_b8.lt
        obtain ⟨cq28, kq28, q28a, q28b, q28c⟩ := isOf hZr7 rfl E_b8
        obtain ⟨_, _, ⟨T28, L28, k28, n28⟩, -, X28, ⟨Lc28, hQ28, l28, y28, z28⟩, st28⟩ := X9.virtualBack hx (y := (⟨"java/util/ArrayList", "add", "(Ljava/lang/Object;)Z"⟩ : MethodName)) (z := (⟨"java/util/ArrayList", "add", "(Ljava/lang/Object;)Z"⟩ : MethodName)) hownr7 (mvT hZr7 (hw _ (List.mem_of_getElem? (i := 180) rfl))) (mvT hZr7 (hw _ (List.mem_of_getElem? (i := 181) rfl))) (notFace_of_selects (args := #[]) (mvT hZr7 (hw _ (List.mem_of_getElem? (i := 183) rfl)))) (mvT hZr7 (hw _ (List.mem_of_getElem? (i := 183) rfl))) (mvT hZr7 (hw _ (List.mem_of_getElem? (i := 182) rfl))) (by decide) (backOf (W := 0) (rm_addA l Z a0 hw [] b8 b6 dc el ea em mr kd ke T9.heap n0 Z0 O hT' E_b8 Am Ae Az g_b8 E_b6) hZr7 (hw _ (List.mem_of_getElem? (i := 184) rfl)) (hw _ (List.mem_of_getElem? (i := 99) rfl)) (by decide) (by decide)) q28a q28c (g := (mkF m 117 #[.val (.int kk), .val (.int aa), .val (.int bb), .val (.int cc), .val (.int yy), .val (.int nn), .val (.int rv), .val (.ref r0), .val (.ref r1), .val (.ref r2), .val (.ref b4), .val (.ref b6), .val (.ref b8), .unset, .unset] [(.ref b6), (.ref b8)])) rfl (by rw [hml]; rfl) (Steps.refl _) (argsL := [(.ref b6)]) (rest := []) (lenOf own_pd27 rfl) rfl (by show 2 * 0 + _ ≤ _; exact Nat.le_of_eq rfl) (hb hby at_117) (fun _ _ => ⟨rfl, rfl, (by decide : 14 + 1 ≤ _), (by decide : 96 + 10 ≤ _)⟩)
        dsimp only [Pt.U, Pt.locs, Pt.cells, Pt.slots] at X28 l28 y28 z28 st28 hQ28
        subst l28 y28 z28
        obtain ⟨t, kt, rfl, N28q, Kc, szt, Bm, Be, Bz, V_t, Ov, E_t⟩ := hQ28
        have N28 := Fr.app N9 N28q
        refine own_tr (V := T28.setTop (mkF m 120 #[.val (.int kk), .val (.int aa), .val (.int bb), .val (.int cc), .val (.int yy), .val (.int nn), .val (.int rv), .val (.ref r0), .val (.ref r1), .val (.ref r2), .val (.ref b4), .val (.ref b6), .val (.ref b8), .unset, .unset] [(.int (1 : Int32))])) st28 ?_
        have g_t : n0 ≤ t := Nat.le_trans Z0 szt
        have ne_b8_t : b8 ≠ t := Nat.ne_of_lt (Nat.lt_of_lt_of_le lt_al szt)
        have ne_t_b8 := Ne.symm ne_b8_t
        have ne_b4_t : b4 ≠ t := Nat.ne_of_lt (Nat.lt_of_lt_of_le E_b4.lt szt)
        have ne_b6_t : b6 ≠ t := Nat.ne_of_lt (Nat.lt_of_lt_of_le E_b6.lt szt)
        have E_r0 := E_r0.keep Kc
        have E_r1 := E_r1.keep Kc
        have E_r2 := E_r2.keep Kc
        have E_b4 := E_b4.keep Kc
        have B_b4 := B_b4.keep Kc (ninS ne_b4_b8 nin0)
        have E_b6 := E_b6.keep Kc
        have B_b6 := B_b6.keep Kc (ninS ne_b6_b8 nin0)
        have E_b8 := E_b8.keep Kc
        have Z0 : n0 ≤ T28.heap.size := Nat.le_trans Z0 Kc.1
        have hkr7 := Nat.le_trans hkr7 Kc.1
        have O := O.keep Kc (allS g_b8 all0)
        refine own_st (V := T28.setTop (mkF m 121 #[.val (.int kk), .val (.int aa), .val (.int bb), .val (.int cc), .val (.int yy), .val (.int nn), .val (.int rv), .val (.ref r0), .val (.ref r1), .val (.ref r2), .val (.ref b4), .val (.ref b6), .val (.ref b8), .unset, .unset] [])) (fun _ hk => XS.pop X28.here hx rfl (hb hby at_120) rfl rfl hk) ?_
        refine own_st (V := T28.setTop (mkF m 123 #[.val (.int kk), .val (.int aa), .val (.int bb), .val (.int cc), .val (.int yy), .val (.int nn), .val (.int rv), .val (.ref r0), .val (.ref r1), .val (.ref r2), .val (.ref b4), .val (.ref b6), .val (.ref b8), .unset, .unset] [(.ref b8)])) (fun _ hk => XS.aload X28.here hx rfl (hb hby at_121) rfl rfl hk) ?_
        refine own_st (V := T28.setTop (mkF m 125 #[.val (.int kk), .val (.int aa), .val (.int bb), .val (.int cc), .val (.int yy), .val (.int nn), .val (.int rv), .val (.ref r0), .val (.ref r1), .val (.ref r2), .val (.ref b4), .val (.ref b6), .val (.ref b8), .unset, .unset] [(.ref b4), (.ref b8)])) (fun _ hk => XS.aload X28.here hx rfl (hb hby at_123) rfl rfl hk) ?_
        obtain ⟨cq29, kq29, q29a, q29b, q29c⟩ := isOf hZr7 rfl E_b8
        obtain ⟨_, _, ⟨T29, L29, k29, n29⟩, -, X29, ⟨Lc29, hQ29, l29, y29, z29⟩, st29⟩ := X28.virtualBack hx (y := (⟨"java/util/ArrayList", "add", "(Ljava/lang/Object;)Z"⟩ : MethodName)) (z := (⟨"java/util/ArrayList", "add", "(Ljava/lang/Object;)Z"⟩ : MethodName)) hownr7 (mvT hZr7 (hw _ (List.mem_of_getElem? (i := 180) rfl))) (mvT hZr7 (hw _ (List.mem_of_getElem? (i := 181) rfl))) (notFace_of_selects (args := #[]) (mvT hZr7 (hw _ (List.mem_of_getElem? (i := 183) rfl)))) (mvT hZr7 (hw _ (List.mem_of_getElem? (i := 183) rfl))) (mvT hZr7 (hw _ (List.mem_of_getElem? (i := 182) rfl))) (by decide) (backOf (W := 0) (rm_addB l Z a0 hw [] b8 t b6 b4 kt T28.heap n0 Z0 O E_b8 Bm Be Bz g_b8 V_t Ov E_t g_t ne_b8_t E_b4) hZr7 (hw _ (List.mem_of_getElem? (i := 184) rfl)) (hw _ (List.mem_of_getElem? (i := 99) rfl)) (by decide) (by decide)) q29a q29c (g := (mkF m 125 #[.val (.int kk), .val (.int aa), .val (.int bb), .val (.int cc), .val (.int yy), .val (.int nn), .val (.int rv), .val (.ref r0), .val (.ref r1), .val (.ref r2), .val (.ref b4), .val (.ref b6), .val (.ref b8), .unset, .unset] [(.ref b4), (.ref b8)])) rfl (by rw [hml]; rfl) (Steps.refl _) (argsL := [(.ref b4)]) (rest := []) (lenOf own_pd27 rfl) rfl (by show 2 * 0 + _ ≤ _; exact Nat.le_of_eq rfl) (hb hby at_125) (fun _ _ => ⟨rfl, rfl, (by decide : 15 + 0 ≤ _), (by decide : 106 + 0 ≤ _)⟩)
        dsimp only [Pt.U, Pt.locs, Pt.cells, Pt.slots] at X29 l29 y29 z29 st29 hQ29
        subst l29 y29 z29
        obtain ⟨rfl, N29q, Kc, Cm, Ce, Cz, U_t⟩ := hQ29
        have N29 := Fr.app N28 N29q
        refine own_tr (V := T29.setTop (mkF m 128 #[.val (.int kk), .val (.int aa), .val (.int bb), .val (.int cc), .val (.int yy), .val (.int nn), .val (.int rv), .val (.ref r0), .val (.ref r1), .val (.ref r2), .val (.ref b4), .val (.ref b6), .val (.ref b8), .unset, .unset] [(.int (1 : Int32))])) st29 ?_
        have E_r0 := E_r0.keep Kc
        have E_r1 := E_r1.keep Kc
        have E_r2 := E_r2.keep Kc
        have E_b4 := E_b4.keep Kc
        have B_b4 := B_b4.keep Kc (ninS ne_b4_b8 (ninS ne_b4_t nin0))
        have E_b6 := E_b6.keep Kc
        have B_b6 := B_b6.keep Kc (ninS ne_b6_b8 (ninS ne_b6_t nin0))
        have E_b8 := E_b8.keep Kc
        have E_t := E_t.keep Kc
        have Z0 : n0 ≤ T29.heap.size := Nat.le_trans Z0 Kc.1
        have hkr7 := Nat.le_trans hkr7 Kc.1
        have O := O.keep Kc (allS g_b8 (allS g_t all0))
        refine own_st (V := T29.setTop (mkF m 129 #[.val (.int kk), .val (.int aa), .val (.int bb), .val (.int cc), .val (.int yy), .val (.int nn), .val (.int rv), .val (.ref r0), .val (.ref r1), .val (.ref r2), .val (.ref b4), .val (.ref b6), .val (.ref b8), .unset, .unset] [])) (fun _ hk => XS.pop X29.here hx rfl (hb hby at_128) rfl rfl hk) ?_
        refine own_st (V := T29.setTop (mkF m 148 #[.val (.int kk), .val (.int aa), .val (.int bb), .val (.int cc), .val (.int yy), .val (.int nn), .val (.int rv), .val (.ref r0), .val (.ref r1), .val (.ref r2), .val (.ref b4), .val (.ref b6), .val (.ref b8), .unset, .unset] [])) (fun _ hk => XS.goto X29.here hx rfl (pc0 := 129) (pc' := 148) rfl (hb hby at_129) (by decide) (by decide) hk) ?_
        obtain ⟨T30, h30, X30, e30, E30, A30, D30, -, st30⟩ := newO X29 hx hZr7 hownr7 (hw _ (List.mem_of_getElem? (i := 121) rfl)) (hw _ (List.mem_of_getElem? (i := 122) rfl)) (hw _ (List.mem_of_getElem? (i := 123) rfl)) rfl (g := (mkF m 148 #[.val (.int kk), .val (.int aa), .val (.int bb), .val (.int cc), .val (.int yy), .val (.int nn), .val (.int rv), .val (.ref r0), .val (.ref r1), .val (.ref r2), .val (.ref b4), .val (.ref b6), .val (.ref b8), .unset, .unset] [])) rfl (hb hby at_148) (by decide) (by decide)
        obtain ⟨b30, g30⟩ : ∃ z, z = T29.heap.size := ⟨_, rfl⟩
        rw [← g30] at A30 D30 st30
        have ne_r0_b30 : r0 ≠ b30 := Nat.ne_of_lt (Nat.lt_of_lt_of_le E_r0.lt (Nat.le_of_eq g30.symm))
        have ne_b30_r0 : b30 ≠ r0 := Ne.symm ne_r0_b30
        have ne_r1_b30 : r1 ≠ b30 := Nat.ne_of_lt (Nat.lt_of_lt_of_le E_r1.lt (Nat.le_of_eq g30.symm))
        have ne_b30_r1 : b30 ≠ r1 := Ne.symm ne_r1_b30
        have ne_r2_b30 : r2 ≠ b30 := Nat.ne_of_lt (Nat.lt_of_lt_of_le E_r2.lt (Nat.le_of_eq g30.symm))
        have ne_b30_r2 : b30 ≠ r2 := Ne.symm ne_r2_b30
        have ne_b4_b30 : b4 ≠ b30 := Nat.ne_of_lt (Nat.lt_of_lt_of_le E_b4.lt (Nat.le_of_eq g30.symm))
        have ne_b30_b4 : b30 ≠ b4 := Ne.symm ne_b4_b30
        have ne_b6_b30 : b6 ≠ b30 := Nat.ne_of_lt (Nat.lt_of_lt_of_le E_b6.lt (Nat.le_of_eq g30.symm))
        have ne_b30_b6 : b30 ≠ b6 := Ne.symm ne_b6_b30
        have ne_b8_b30 : b8 ≠ b30 := Nat.ne_of_lt (Nat.lt_of_lt_of_le E_b8.lt (Nat.le_of_eq g30.symm))
        have ne_b30_b8 : b30 ≠ b8 := Ne.symm ne_b8_b30
        have ne_t_b30 : t ≠ b30 := Nat.ne_of_lt (Nat.lt_of_lt_of_le E_t.lt (Nat.le_of_eq g30.symm))
        have ne_b30_t : b30 ≠ t := Ne.symm ne_t_b30
        have g_b30 : n0 ≤ b30 := Nat.le_trans Z0 (Nat.le_of_eq g30.symm)
        have E_r0 := E_r0.ext E30
        have E_r1 := E_r1.ext E30
        have E_r2 := E_r2.ext E30
        have E_b4 := E_b4.ext E30
        have B_b4 := B_b4.ext E30
        have E_b6 := E_b6.ext E30
        have B_b6 := B_b6.ext E30
        have E_b8 := E_b8.ext E30
        have E_t := E_t.ext E30
        have Cm := Cm.ext E30
        have Ce := Ce.ext E30
        have Cz := Cz.ext E30
        have U_t := U_t.ext E30
        have O := O.ext E30
        have Z0 : n0 ≤ h30.size := Nat.le_trans Z0 E30.1
        have hkr7 := Nat.le_trans hkr7 E30.1
        have E_b30 := A30
        have F_periods_b30 : Fld Z h30 b30 "com/example/vestline/vestline/service/ServiceCount" "periods" "Ljava/util/List;" .null := D30 (Or.inr (hw _ (List.mem_of_getElem? (i := 158) rfl))) (ty := (.object "java/util/List")) (by decide)
        have F_years_b30 : Fld Z h30 b30 "com/example/vestline/vestline/service/ServiceCount" "years" "I" (.int (0 : Int32)) := D30 (Or.inr (hw _ (List.mem_of_getElem? (i := 160) rfl))) (ty := .int) (by decide)
        have F_setAsides_b30 : Fld Z h30 b30 "com/example/vestline/vestline/service/ServiceCount" "setAsides" "Ljava/util/List;" .null := D30 (Or.inr (hw _ (List.mem_of_getElem? (i := 162) rfl))) (ty := (.object "java/util/List")) (by decide)
        refine own_st (V := T30.setTop (mkF m 151 #[.val (.int kk), .val (.int aa), .val (.int bb), .val (.int cc), .val (.int yy), .val (.int nn), .val (.int rv), .val (.ref r0), .val (.ref r1), .val (.ref r2), .val (.ref b4), .val (.ref b6), .val (.ref b8), .unset, .unset] [(.ref b30)])) st30 ?_
        refine own_st (V := T30.setTop (mkF m 152 #[.val (.int kk), .val (.int aa), .val (.int bb), .val (.int cc), .val (.int yy), .val (.int nn), .val (.int rv), .val (.ref r0), .val (.ref r1), .val (.ref r2), .val (.ref b4), .val (.ref b6), .val (.ref b8), .unset, .unset] [(.ref b30), (.ref b30)])) (fun _ hk => XS.dup X30.here hx rfl (hb hby at_151) rfl rfl hk) ?_
        obtain ⟨T31, h31, X31, e31, E31, A31, D31, -, st31⟩ := newO X30 hx hZr7 hownr7 (hw _ (List.mem_of_getElem? (i := 97) rfl)) (hw _ (List.mem_of_getElem? (i := 98) rfl)) (hw _ (List.mem_of_getElem? (i := 99) rfl)) e30 (g := (mkF m 152 #[.val (.int kk), .val (.int aa), .val (.int bb), .val (.int cc), .val (.int yy), .val (.int nn), .val (.int rv), .val (.ref r0), .val (.ref r1), .val (.ref r2), .val (.ref b4), .val (.ref b6), .val (.ref b8), .unset, .unset] [(.ref b30), (.ref b30)])) rfl (hb hby at_152) (by decide) (by decide)
        obtain ⟨b31, g31⟩ : ∃ z, z = h30.size := ⟨_, rfl⟩
        rw [← g31] at A31 D31 st31
        have ne_r0_b31 : r0 ≠ b31 := Nat.ne_of_lt (Nat.lt_of_lt_of_le E_r0.lt (Nat.le_of_eq g31.symm))
        have ne_b31_r0 : b31 ≠ r0 := Ne.symm ne_r0_b31
        have ne_r1_b31 : r1 ≠ b31 := Nat.ne_of_lt (Nat.lt_of_lt_of_le E_r1.lt (Nat.le_of_eq g31.symm))
        have ne_b31_r1 : b31 ≠ r1 := Ne.symm ne_r1_b31
        have ne_r2_b31 : r2 ≠ b31 := Nat.ne_of_lt (Nat.lt_of_lt_of_le E_r2.lt (Nat.le_of_eq g31.symm))
        have ne_b31_r2 : b31 ≠ r2 := Ne.symm ne_r2_b31
        have ne_b4_b31 : b4 ≠ b31 := Nat.ne_of_lt (Nat.lt_of_lt_of_le E_b4.lt (Nat.le_of_eq g31.symm))
        have ne_b31_b4 : b31 ≠ b4 := Ne.symm ne_b4_b31
        have ne_b6_b31 : b6 ≠ b31 := Nat.ne_of_lt (Nat.lt_of_lt_of_le E_b6.lt (Nat.le_of_eq g31.symm))
        have ne_b31_b6 : b31 ≠ b6 := Ne.symm ne_b6_b31
        have ne_b8_b31 : b8 ≠ b31 := Nat.ne_of_lt (Nat.lt_of_lt_of_le E_b8.lt (Nat.le_of_eq g31.symm))
        have ne_b31_b8 : b31 ≠ b8 := Ne.symm ne_b8_b31
        have ne_t_b31 : t ≠ b31 := Nat.ne_of_lt (Nat.lt_of_lt_of_le E_t.lt (Nat.le_of_eq g31.symm))
        have ne_b31_t : b31 ≠ t := Ne.symm ne_t_b31
        have ne_b30_b31 : b30 ≠ b31 := Nat.ne_of_lt (Nat.lt_of_lt_of_le E_b30.lt (Nat.le_of_eq g31.symm))
        have ne_b31_b30 : b31 ≠ b30 := Ne.symm ne_b30_b31
        have g_b31 : n0 ≤ b31 := Nat.le_trans Z0 (Nat.le_of_eq g31.symm)
        have E_r0 := E_r0.ext E31
        have E_r1 := E_r1.ext E31
        have E_r2 := E_r2.ext E31
        have E_b4 := E_b4.ext E31
        have B_b4 := B_b4.ext E31
        have E_b6 := E_b6.ext E31
        have B_b6 := B_b6.ext E31
        have E_b8 := E_b8.ext E31
        have E_t := E_t.ext E31
        have Cm := Cm.ext E31
        have Ce := Ce.ext E31
        have Cz := Cz.ext E31
        have U_t := U_t.ext E31
        have E_b30 := E_b30.ext E31
        have F_periods_b30 := F_periods_b30.ext E31
        have F_years_b30 := F_years_b30.ext E31
        have F_setAsides_b30 := F_setAsides_b30.ext E31
        have O := O.ext E31
        have Z0 : n0 ≤ h31.size := Nat.le_trans Z0 E31.1
        have hkr7 := Nat.le_trans hkr7 E31.1
        have E_b31 := A31
        have F_modCount_b31 : Fld Z h31 b31 "java/util/AbstractList" "modCount" "I" (.int (0 : Int32)) := D31 (Or.inl (hw _ (List.mem_of_getElem? (i := 117) rfl))) (ty := .int) (by decide)
        have F_elementData_b31 : Fld Z h31 b31 "java/util/ArrayList" "elementData" "[Ljava/lang/Object;" .null := D31 (Or.inl (hw _ (List.mem_of_getElem? (i := 120) rfl))) (ty := (.array (.object "java/lang/Object"))) (by decide)
        have F_size_b31 : Fld Z h31 b31 "java/util/ArrayList" "size" "I" (.int (0 : Int32)) := D31 (Or.inl (hw _ (List.mem_of_getElem? (i := 152) rfl))) (ty := .int) (by decide)
        refine own_st (V := T31.setTop (mkF m 155 #[.val (.int kk), .val (.int aa), .val (.int bb), .val (.int cc), .val (.int yy), .val (.int nn), .val (.int rv), .val (.ref r0), .val (.ref r1), .val (.ref r2), .val (.ref b4), .val (.ref b6), .val (.ref b8), .unset, .unset] [(.ref b31), (.ref b30), (.ref b30)])) st31 ?_
        refine own_st (V := T31.setTop (mkF m 156 #[.val (.int kk), .val (.int aa), .val (.int bb), .val (.int cc), .val (.int yy), .val (.int nn), .val (.int rv), .val (.ref r0), .val (.ref r1), .val (.ref r2), .val (.ref b4), .val (.ref b6), .val (.ref b8), .unset, .unset] [(.ref b31), (.ref b31), (.ref b30), (.ref b30)])) (fun _ hk => XS.dup X31.here hx rfl (hb hby at_155) rfl rfl hk) ?_
        obtain ⟨_, _, ⟨T32, L32, k32, n32⟩, -, X32, ⟨Lc32, hQ32, l32, y32, z32⟩, st32⟩ := X31.specialBack hx (y := (⟨"java/util/ArrayList", "<init>", "()V"⟩ : MethodName)) rfl hownr7 (mvT hZr7 (hw _ (List.mem_of_getElem? (i := 100) rfl))) (mvT hZr7 (hw _ (List.mem_of_getElem? (i := 101) rfl))) (mvT hZr7 (hw _ (List.mem_of_getElem? (i := 102) rfl))) (by decide) (backOf (W := 3) (rm_alInit l Z a0 hw [] b31 _ _ _ dc el ea em mr kd ke h31 n0 Z0 O hT' E_b31 F_modCount_b31 F_elementData_b31 F_size_b31 g_b31) hZr7 (hw _ (List.mem_of_getElem? (i := 102) rfl)) (hw _ (List.mem_of_getElem? (i := 99) rfl)) (by decide) (by decide)) (g := (mkF m 156 #[.val (.int kk), .val (.int aa), .val (.int bb), .val (.int cc), .val (.int yy), .val (.int nn), .val (.int rv), .val (.ref r0), .val (.ref r1), .val (.ref r2), .val (.ref b4), .val (.ref b6), .val (.ref b8), .unset, .unset] [(.ref b31), (.ref b31), (.ref b30), (.ref b30)])) rfl (by rw [hml]; rfl) (Steps.refl _) (a := b31) (argsL := []) (rest := [(.ref b31), (.ref b30), (.ref b30)]) (lenOf own_pd6 rfl) rfl (by show 2 * 0 + _ ≤ _; exact Nat.le_of_eq rfl) (hb hby at_156) (fun _ _ => ⟨rfl, e31, (by decide : 17 + 0 ≤ _), (by decide : 112 + 0 ≤ _)⟩)
        dsimp only [Pt.U, Pt.locs, Pt.cells, Pt.slots] at X32 l32 y32 z32 st32 hQ32
        subst l32 y32 z32
        obtain ⟨rfl, N32q, Kc, Pm, Pe, Pz⟩ := hQ32
        have N32 := Fr.app N29 N32q
        refine own_tr (V := T32.setTop (mkF m 159 #[.val (.int kk), .val (.int aa), .val (.int bb), .val (.int cc), .val (.int yy), .val (.int nn), .val (.int rv), .val (.ref r0), .val (.ref r1), .val (.ref r2), .val (.ref b4), .val (.ref b6), .val (.ref b8), .unset, .unset] [(.ref b31), (.ref b30), (.ref b30)])) st32 ?_
        have E_r0 := E_r0.keep Kc
        have E_r1 := E_r1.keep Kc
        have E_r2 := E_r2.keep Kc
        have E_b4 := E_b4.keep Kc
        have B_b4 := B_b4.keep Kc (ninS ne_b4_b31 nin0)
        have E_b6 := E_b6.keep Kc
        have B_b6 := B_b6.keep Kc (ninS ne_b6_b31 nin0)
        have E_b8 := E_b8.keep Kc
        have E_t := E_t.keep Kc
        have Cm := Cm.keep Kc (ninS ne_b8_b31 nin0)
        have Ce := Ce.keep Kc (ninS ne_b8_b31 nin0)
        have Cz := Cz.keep Kc (ninS ne_b8_b31 nin0)
        have U_t := U_t.keep Kc (ninS ne_t_b31 nin0)
        have E_b30 := E_b30.keep Kc
        have F_periods_b30 := F_periods_b30.keep Kc (ninS ne_b30_b31 nin0)
        have F_years_b30 := F_years_b30.keep Kc (ninS ne_b30_b31 nin0)
        have F_setAsides_b30 := F_setAsides_b30.keep Kc (ninS ne_b30_b31 nin0)
        have E_b31 := E_b31.keep Kc
        have Z0 : n0 ≤ T32.heap.size := Nat.le_trans Z0 Kc.1
        have hkr7 := Nat.le_trans hkr7 Kc.1
        have O := O.keep Kc (allS g_b31 all0)
        refine own_st (V := T32.setTop (mkF m 161 #[.val (.int kk), .val (.int aa), .val (.int bb), .val (.int cc), .val (.int yy), .val (.int nn), .val (.int rv), .val (.ref r0), .val (.ref r1), .val (.ref r2), .val (.ref b4), .val (.ref b6), .val (.ref b8), .unset, .unset] [(.int yy), (.ref b31), (.ref b30), (.ref b30)])) (fun _ hk => XS.iload X32.here hx rfl (hb hby at_159) rfl  hk) ?_
        refine own_st (V := T32.setTop (mkF m 163 #[.val (.int kk), .val (.int aa), .val (.int bb), .val (.int cc), .val (.int yy), .val (.int nn), .val (.int rv), .val (.ref r0), .val (.ref r1), .val (.ref r2), .val (.ref b4), .val (.ref b6), .val (.ref b8), .unset, .unset] [(.ref b8), (.int yy), (.ref b31), (.ref b30), (.ref b30)])) (fun _ hk => XS.aload X32.here hx rfl (hb hby at_161) rfl rfl hk) ?_
        obtain ⟨_, _, ⟨T33, L33, k33, n33⟩, -, X33, ⟨Lc33, hQ33, l33, y33, z33⟩, st33⟩ := X32.specialBack hx (y := (⟨"com/example/vestline/vestline/service/ServiceCount", "<init>", "(Ljava/util/List;ILjava/util/List;)V"⟩ : MethodName)) rfl hownr7 (mvT hZr7 (hw _ (List.mem_of_getElem? (i := 124) rfl))) (mvT hZr7 (hw _ (List.mem_of_getElem? (i := 125) rfl))) (mvT hZr7 (hw _ (List.mem_of_getElem? (i := 126) rfl))) (by decide) (backOf (W := 1) (rm_scInit2 l Z a0 hw [] b30 b31 yy _ _ _ b8 t b6 b4 kt dc el ea em mr kd ke T32.heap n0 Z0 O hT' E_b30 F_periods_b30 F_years_b30 F_setAsides_b30 g_b30 E_b31 Pz E_b8 Cz Ce U_t E_t E_b6 E_b4) hZr7 (hw _ (List.mem_of_getElem? (i := 126) rfl)) (hw _ (List.mem_of_getElem? (i := 123) rfl)) (by decide) (by decide)) (g := (mkF m 163 #[.val (.int kk), .val (.int aa), .val (.int bb), .val (.int cc), .val (.int yy), .val (.int nn), .val (.int rv), .val (.ref r0), .val (.ref r1), .val (.ref r2), .val (.ref b4), .val (.ref b6), .val (.ref b8), .unset, .unset] [(.ref b8), (.int yy), (.ref b31), (.ref b30), (.ref b30)])) rfl (by rw [hml]; rfl) (Steps.refl _) (a := b30) (argsL := [(.ref b31), (.int yy), (.ref b8)]) (rest := [(.ref b30)]) (lenOf own_pd26 rfl) rfl (by show 2 * 0 + _ ≤ _; exact Nat.le_of_eq rfl) (hb hby at_163) (fun _ _ => ⟨rfl, rfl, (by decide : 17 + 2 ≤ _), (by decide : 112 + 4 ≤ _)⟩)
        dsimp only [Pt.U, Pt.locs, Pt.cells, Pt.slots] at X33 l33 y33 z33 st33 hQ33
        subst l33 y33 z33
        obtain ⟨rl, rfl, N33q, Kc, szl, Fs, E_rl, G_0, G_1⟩ := hQ33
        have N33 := Fr.app N32 N33q
        refine own_tr (V := T33.setTop (mkF m 166 #[.val (.int kk), .val (.int aa), .val (.int bb), .val (.int cc), .val (.int yy), .val (.int nn), .val (.int rv), .val (.ref r0), .val (.ref r1), .val (.ref r2), .val (.ref b4), .val (.ref b6), .val (.ref b8), .unset, .unset] [(.ref b30)])) st33 ?_
        have E_r0 := E_r0.keep Kc
        have E_r1 := E_r1.keep Kc
        have E_r2 := E_r2.keep Kc
        have E_b4 := E_b4.keep Kc
        have B_b4 := B_b4.keep Kc (ninS ne_b4_b30 nin0)
        have E_b6 := E_b6.keep Kc
        have B_b6 := B_b6.keep Kc (ninS ne_b6_b30 nin0)
        have E_b8 := E_b8.keep Kc
        have E_t := E_t.keep Kc
        have Cm := Cm.keep Kc (ninS ne_b8_b30 nin0)
        have Ce := Ce.keep Kc (ninS ne_b8_b30 nin0)
        have Cz := Cz.keep Kc (ninS ne_b8_b30 nin0)
        have U_t := U_t.keep Kc (ninS ne_t_b30 nin0)
        have E_b30 := E_b30.keep Kc
        have E_b31 := E_b31.keep Kc
        have Pm := Pm.keep Kc (ninS ne_b31_b30 nin0)
        have Pe := Pe.keep Kc (ninS ne_b31_b30 nin0)
        have Pz := Pz.keep Kc (ninS ne_b31_b30 nin0)
        have Z0 : n0 ≤ T33.heap.size := Nat.le_trans Z0 Kc.1
        have hkr7 := Nat.le_trans hkr7 Kc.1
        have O := O.keep Kc (allS g_b30 all0)
        refine own_st (V := T33.setTop (mkF m 168 #[.val (.int kk), .val (.int aa), .val (.int bb), .val (.int cc), .val (.int yy), .val (.int nn), .val (.int rv), .val (.ref r0), .val (.ref r1), .val (.ref r2), .val (.ref b4), .val (.ref b6), .val (.ref b8), .val (.ref b30), .unset] [])) (fun _ hk => XS.astore X33.here hx rfl (hb hby at_166) rfl rfl (l' := #[.val (.int kk), .val (.int aa), .val (.int bb), .val (.int cc), .val (.int yy), .val (.int nn), .val (.int rv), .val (.ref r0), .val (.ref r1), .val (.ref r2), .val (.ref b4), .val (.ref b6), .val (.ref b8), .val (.ref b30), .unset]) rfl hk) ?_
        refine own_st (V := T33.setTop (mkF m 170 #[.val (.int kk), .val (.int aa), .val (.int bb), .val (.int cc), .val (.int yy), .val (.int nn), .val (.int rv), .val (.ref r0), .val (.ref r1), .val (.ref r2), .val (.ref b4), .val (.ref b6), .val (.ref b8), .val (.ref b30), .unset] [(.ref b30)])) (fun _ hk => XS.aload X33.here hx rfl (hb hby at_168) rfl rfl hk) ?_
        have hne : ¬ b4 = em := E_b4.ne (Eem.ext O.2) (by decide)
        obtain ⟨cq34, kq34, q34a, q34b, q34c⟩ := isOf hZr7 rfl E_b30
        obtain ⟨_, _, ⟨T34, L34, k34, n34⟩, -, X34, ⟨Lc34, hQ34, l34, y34, z34⟩, st34⟩ := X33.virtualBack hx (y := (⟨"com/example/vestline/vestline/service/ServiceCount", "setAsideBefore", "()Ljava/time/LocalDate;"⟩ : MethodName)) (z := (⟨"com/example/vestline/vestline/service/ServiceCount", "setAsideBefore", "()Ljava/time/LocalDate;"⟩ : MethodName)) hownr7 (mvT hZr7 (hw _ (List.mem_of_getElem? (i := 163) rfl))) (mvT hZr7 (hw _ (List.mem_of_getElem? (i := 164) rfl))) (notFace_of_selects (args := #[]) (mvT hZr7 (hw _ (List.mem_of_getElem? (i := 166) rfl)))) (mvT hZr7 (hw _ (List.mem_of_getElem? (i := 166) rfl))) (mvT hZr7 (hw _ (List.mem_of_getElem? (i := 165) rfl))) (by decide) (backOf (W := 0) (rm_sab2 l Z a0 hw [] b30 rl b6 b4 r0 dc el ea em mr kd ke T33.heap n0 Z0 O hT' Fs E_rl G_0 G_1 E_b4 B_b4 hne) hZr7 (hw _ (List.mem_of_getElem? (i := 167) rfl)) (hw _ (List.mem_of_getElem? (i := 123) rfl)) (by decide) (by decide)) q34a q34c (g := (mkF m 170 #[.val (.int kk), .val (.int aa), .val (.int bb), .val (.int cc), .val (.int yy), .val (.int nn), .val (.int rv), .val (.ref r0), .val (.ref r1), .val (.ref r2), .val (.ref b4), .val (.ref b6), .val (.ref b8), .val (.ref b30), .unset] [(.ref b30)])) rfl (by rw [hml]; rfl) (Steps.refl _) (argsL := []) (rest := []) (lenOf own_pd23 rfl) rfl (by show 2 * 0 + _ ≤ _; exact Nat.le_of_eq rfl) (hb hby at_170) (fun _ _ => ⟨rfl, rfl, (by decide : 19 + 0 ≤ _), (by decide : 116 + 0 ≤ _)⟩)
        dsimp only [Pt.U, Pt.locs, Pt.cells, Pt.slots] at X34 l34 y34 z34 st34 hQ34
        subst l34 y34 z34
        obtain ⟨rfl, N34q, es34⟩ := hQ34
        have N34 := Fr.app N33 N34q
        refine own_tr (V := T34.setTop (mkF m 173 #[.val (.int kk), .val (.int aa), .val (.int bb), .val (.int cc), .val (.int yy), .val (.int nn), .val (.int rv), .val (.ref r0), .val (.ref r1), .val (.ref r2), .val (.ref b4), .val (.ref b6), .val (.ref b8), .val (.ref b30), .unset] [(.ref r0)])) st34 ?_
        refine own_st (V := T34.setTop (mkF m 175 #[.val (.int kk), .val (.int aa), .val (.int bb), .val (.int cc), .val (.int yy), .val (.int nn), .val (.int rv), .val (.ref r0), .val (.ref r1), .val (.ref r2), .val (.ref b4), .val (.ref b6), .val (.ref b8), .val (.ref b30), .val (.ref r0)] [])) (fun _ hk => XS.astore X34.here hx rfl (hb hby at_173) rfl rfl (l' := #[.val (.int kk), .val (.int aa), .val (.int bb), .val (.int cc), .val (.int yy), .val (.int nn), .val (.int rv), .val (.ref r0), .val (.ref r1), .val (.ref r2), .val (.ref b4), .val (.ref b6), .val (.ref b8), .val (.ref b30), .val (.ref r0)]) rfl hk) ?_
        refine own_st (V := T34.setTop (mkF m 177 #[.val (.int kk), .val (.int aa), .val (.int bb), .val (.int cc), .val (.int yy), .val (.int nn), .val (.int rv), .val (.ref r0), .val (.ref r1), .val (.ref r2), .val (.ref b4), .val (.ref b6), .val (.ref b8), .val (.ref b30), .val (.ref r0)] [(.int nn)])) (fun _ hk => XS.iload X34.here hx rfl (hb hby at_175) rfl  hk) ?_
        refine own_st (V := T34.setTop (mkF m 191 #[.val (.int kk), .val (.int aa), .val (.int bb), .val (.int cc), .val (.int yy), .val (.int nn), .val (.int rv), .val (.ref r0), .val (.ref r1), .val (.ref r2), .val (.ref b4), .val (.ref b6), .val (.ref b8), .val (.ref b30), .val (.ref r0)] [])) (fun _ hk => XS.ifYes X34.here hx rfl (pc0 := 177) (pc' := 191) rfl (hb hby at_177) rfl ((if0 _ _).trans (feq (show ¬ (nn = (0 : Int32)) from (by rw [hz]; decide))).2) (by decide) (by decide) hk) ?_
        refine own_st (V := T34.setTop (mkF m 193 #[.val (.int kk), .val (.int aa), .val (.int bb), .val (.int cc), .val (.int yy), .val (.int nn), .val (.int rv), .val (.ref r0), .val (.ref r1), .val (.ref r2), .val (.ref b4), .val (.ref b6), .val (.ref b8), .val (.ref b30), .val (.ref r0)] [(.int nn)])) (fun _ hk => XS.iload X34.here hx rfl (hb hby at_191) rfl  hk) ?_
        refine own_st (V := T34.setTop (mkF m 194 #[.val (.int kk), .val (.int aa), .val (.int bb), .val (.int cc), .val (.int yy), .val (.int nn), .val (.int rv), .val (.ref r0), .val (.ref r1), .val (.ref r2), .val (.ref b4), .val (.ref b6), .val (.ref b8), .val (.ref b30), .val (.ref r0)] [(.int (1 : Int32)), (.int nn)])) (fun _ hk => XS.iconst X34.here hx rfl (hb hby at_193) hk) ?_
        refine own_st (V := T34.setTop (mkF m 210 #[.val (.int kk), .val (.int aa), .val (.int bb), .val (.int cc), .val (.int yy), .val (.int nn), .val (.int rv), .val (.ref r0), .val (.ref r1), .val (.ref r2), .val (.ref b4), .val (.ref b6), .val (.ref b8), .val (.ref b30), .val (.ref r0)] [])) (fun _ hk => XS.icmpYes X34.here hx rfl (pc0 := 194) (pc' := 210) rfl (hb hby at_194) rfl (feq (show ¬ (nn = (1 : Int32)) from (by rw [hz]; decide))).2 (by decide) (by decide) hk) ?_
        refine own_st (V := T34.setTop (mkF m 212 #[.val (.int kk), .val (.int aa), .val (.int bb), .val (.int cc), .val (.int yy), .val (.int nn), .val (.int rv), .val (.ref r0), .val (.ref r1), .val (.ref r2), .val (.ref b4), .val (.ref b6), .val (.ref b8), .val (.ref b30), .val (.ref r0)] [(.int rv)])) (fun _ hk => XS.iload X34.here hx rfl (hb hby at_210) rfl  hk) ?_
        refine own_st (V := T34.setTop (mkF m 215 #[.val (.int kk), .val (.int aa), .val (.int bb), .val (.int cc), .val (.int yy), .val (.int nn), .val (.int rv), .val (.ref r0), .val (.ref r1), .val (.ref r2), .val (.ref b4), .val (.ref b6), .val (.ref b8), .val (.ref b30), .val (.ref r0)] [])) (fun _ hk => XS.ifNo X34.here hx rfl (hb hby at_212) rfl ((if0 _ _).trans (feq (show ¬ (rv = (0 : Int32)) from hrv)).1) hk) ?_
        refine own_st (V := T34.setTop (mkF m 217 #[.val (.int kk), .val (.int aa), .val (.int bb), .val (.int cc), .val (.int yy), .val (.int nn), .val (.int rv), .val (.ref r0), .val (.ref r1), .val (.ref r2), .val (.ref b4), .val (.ref b6), .val (.ref b8), .val (.ref b30), .val (.ref r0)] [(.ref r0)])) (fun _ hk => XS.aload X34.here hx rfl (hb hby at_215) rfl rfl hk) ?_
        refine own_st (V := T34.setTop (mkF m 219 #[.val (.int kk), .val (.int aa), .val (.int bb), .val (.int cc), .val (.int yy), .val (.int nn), .val (.int rv), .val (.ref r0), .val (.ref r1), .val (.ref r2), .val (.ref b4), .val (.ref b6), .val (.ref b8), .val (.ref b30), .val (.ref r0)] [(.ref r0), (.ref r0)])) (fun _ hk => XS.aload X34.here hx rfl (hb hby at_217) rfl rfl hk) ?_
        refine own_st (V := T34.setTop (mkF m 222 #[.val (.int kk), .val (.int aa), .val (.int bb), .val (.int cc), .val (.int yy), .val (.int nn), .val (.int rv), .val (.ref r0), .val (.ref r1), .val (.ref r2), .val (.ref b4), .val (.ref b6), .val (.ref b8), .val (.ref b30), .val (.ref r0)] [])) (fun _ hk => Jvm.RoadKit.acmp (g := (mkF m 219 #[.val (.int kk), .val (.int aa), .val (.int bb), .val (.int cc), .val (.int yy), .val (.int nn), .val (.int rv), .val (.ref r0), .val (.ref r1), .val (.ref r2), .val (.ref b4), .val (.ref b6), .val (.ref b8), .val (.ref b30), .val (.ref r0)] [(.ref r0), (.ref r0)])) X34 hx rfl rfl rfl (pc0 := 219) (pc' := 222) (same := true) rfl (hb hby at_219) rfl (decide_eq_true rfl) (by decide) (by decide) hk) ?_
        refine own_st (V := T34.setTop (mkF m 223 #[.val (.int kk), .val (.int aa), .val (.int bb), .val (.int cc), .val (.int yy), .val (.int nn), .val (.int rv), .val (.ref r0), .val (.ref r1), .val (.ref r2), .val (.ref b4), .val (.ref b6), .val (.ref b8), .val (.ref b30), .val (.ref r0)] [(.int (1 : Int32))])) (fun _ hk => XS.iconst X34.here hx rfl (hb hby at_222) hk) ?_
        refine own_st (V := T34.setTop (mkF m 227 #[.val (.int kk), .val (.int aa), .val (.int bb), .val (.int cc), .val (.int yy), .val (.int nn), .val (.int rv), .val (.ref r0), .val (.ref r1), .val (.ref r2), .val (.ref b4), .val (.ref b6), .val (.ref b8), .val (.ref b30), .val (.ref r0)] [(.int (1 : Int32))])) (fun _ hk => XS.goto X34.here hx rfl (pc0 := 223) (pc' := 227) rfl (hb hby at_223) (by decide) (by decide) hk) ?_
        exact own_retNW X34 hSr7 (by rw [es34]; exact hkr7) hx Bd.notSynchronized Bd.returns rfl (by simp) (hb hby at_227) (by decide) (by decide) (fun U hU hV hE => hF _ _ ⟨_, _, rfl, (by rw [hU, es34]; exact ⟨rfl, N34⟩), hE⟩)
  refine own_st (V := s₁.setTop (mkF m 1 #[.val (.int kk), .val (.int aa), .val (.int bb), .val (.int cc), .val (.int yy), .unset, .unset, .unset, .unset, .unset, .unset, .unset, .unset, .unset, .unset] [(.int kk)])) (fun _ hk => XS.iloadN X0.here hx rfl (hb hby at_0) rfl  hk) ?_
  refine own_st (V := s₁.setTop (mkF m 3 #[.val (.int kk), .val (.int aa), .val (.int bb), .val (.int cc), .val (.int yy), .unset, .unset, .unset, .unset, .unset, .unset, .unset, .unset, .unset, .unset] [(.int (2147483647 : Int32)), (.int kk)])) (X0.ldcInt hx hown (mvT hZ (hw _ (List.mem_of_getElem? (i := 0) rfl))) (g := (mkF m 1 #[.val (.int kk), .val (.int aa), .val (.int bb), .val (.int cc), .val (.int yy), .unset, .unset, .unset, .unset, .unset, .unset, .unset, .unset, .unset, .unset] [(.int kk)])) rfl (hb hby at_1)) ?_
  refine own_st (V := s₁.setTop (mkF m 4 #[.val (.int kk), .val (.int aa), .val (.int bb), .val (.int cc), .val (.int yy), .unset, .unset, .unset, .unset, .unset, .unset, .unset, .unset, .unset, .unset] [(.int (kk &&& (2147483647 : Int32)))])) (fun _ hk => XS.iand X0.here hx rfl (hb hby at_3) rfl hk) ?_
  refine own_st (V := s₁.setTop (mkF m 5 #[.val (.int kk), .val (.int aa), .val (.int bb), .val (.int cc), .val (.int yy), .unset, .unset, .unset, .unset, .unset, .unset, .unset, .unset, .unset, .unset] [(.int (3 : Int32)), (.int (kk &&& (2147483647 : Int32)))])) (fun _ hk => XS.iconst X0.here hx rfl (hb hby at_4) hk) ?_
  refine own_st (V := s₁.setTop (mkF m 6 #[.val (.int kk), .val (.int aa), .val (.int bb), .val (.int cc), .val (.int yy), .unset, .unset, .unset, .unset, .unset, .unset, .unset, .unset, .unset, .unset] [(.int ((kk &&& (2147483647 : Int32)) % (3 : Int32)))])) (fun _ hk => iremM (g := (mkF m 5 #[.val (.int kk), .val (.int aa), .val (.int bb), .val (.int cc), .val (.int yy), .unset, .unset, .unset, .unset, .unset, .unset, .unset, .unset, .unset, .unset] [(.int (3 : Int32)), (.int (kk &&& (2147483647 : Int32)))])) X0 hx rfl (hb hby at_5) rfl (by decide) hk) ?_
  rw [← hnn]
  refine own_st (V := s₁.setTop (mkF m 8 #[.val (.int kk), .val (.int aa), .val (.int bb), .val (.int cc), .val (.int yy), .val (.int nn), .unset, .unset, .unset, .unset, .unset, .unset, .unset, .unset, .unset] [])) (fun _ hk => XS.istore X0.here hx rfl (hb hby at_6) rfl  (l' := #[.val (.int kk), .val (.int aa), .val (.int bb), .val (.int cc), .val (.int yy), .val (.int nn), .unset, .unset, .unset, .unset, .unset, .unset, .unset, .unset, .unset]) rfl hk) ?_
  refine own_st (V := s₁.setTop (mkF m 9 #[.val (.int kk), .val (.int aa), .val (.int bb), .val (.int cc), .val (.int yy), .val (.int nn), .unset, .unset, .unset, .unset, .unset, .unset, .unset, .unset, .unset] [(.int bb)])) (fun _ hk => XS.iloadN X0.here hx rfl (hb hby at_8) rfl  hk) ?_
  refine own_st (V := s₁.setTop (mkF m 11 #[.val (.int kk), .val (.int aa), .val (.int bb), .val (.int cc), .val (.int yy), .val (.int nn), .unset, .unset, .unset, .unset, .unset, .unset, .unset, .unset, .unset] [(.int (16 : Int32)), (.int bb)])) (fun _ hk => XS.bipush X0.here hx rfl (hb hby at_9) hk) ?_
  refine own_st (V := s₁.setTop (mkF m 12 #[.val (.int kk), .val (.int aa), .val (.int bb), .val (.int cc), .val (.int yy), .val (.int nn), .unset, .unset, .unset, .unset, .unset, .unset, .unset, .unset, .unset] [(.int ((bb.toUInt32 >>> ((16 : Int32) &&& 31).toUInt32).toInt32))])) (fun _ hk => XS.iushr X0.here hx rfl (hb hby at_11) rfl hk) ?_
  refine own_st (V := s₁.setTop (mkF m 13 #[.val (.int kk), .val (.int aa), .val (.int bb), .val (.int cc), .val (.int yy), .val (.int nn), .unset, .unset, .unset, .unset, .unset, .unset, .unset, .unset, .unset] [(.int (1 : Int32)), (.int ((bb.toUInt32 >>> ((16 : Int32) &&& 31).toUInt32).toInt32))])) (fun _ hk => XS.iconst X0.here hx rfl (hb hby at_12) hk) ?_
  refine own_st (V := s₁.setTop (mkF m 14 #[.val (.int kk), .val (.int aa), .val (.int bb), .val (.int cc), .val (.int yy), .val (.int nn), .unset, .unset, .unset, .unset, .unset, .unset, .unset, .unset, .unset] [(.int (((bb.toUInt32 >>> ((16 : Int32) &&& 31).toUInt32).toInt32) &&& (1 : Int32)))])) (fun _ hk => XS.iand X0.here hx rfl (hb hby at_13) rfl hk) ?_
  by_cases hc14 : (((bb.toUInt32 >>> ((16 : Int32) &&& 31).toUInt32).toInt32) &&& (1 : Int32)) = (0 : Int32)
  · skip
    refine own_st (V := s₁.setTop (mkF m 21 #[.val (.int kk), .val (.int aa), .val (.int bb), .val (.int cc), .val (.int yy), .val (.int nn), .unset, .unset, .unset, .unset, .unset, .unset, .unset, .unset, .unset] [])) (fun _ hk => XS.ifYes X0.here hx rfl (pc0 := 14) (pc' := 21) rfl (hb hby at_14) rfl ((if0 _ _).trans (teq (show (((bb.toUInt32 >>> ((16 : Int32) &&& 31).toUInt32).toInt32) &&& (1 : Int32)) = (0 : Int32) from hc14)).1) (by decide) (by decide) hk) ?_
    refine own_st (V := s₁.setTop (mkF m 22 #[.val (.int kk), .val (.int aa), .val (.int bb), .val (.int cc), .val (.int yy), .val (.int nn), .unset, .unset, .unset, .unset, .unset, .unset, .unset, .unset, .unset] [(.int (0 : Int32))])) (fun _ hk => XS.iconst X0.here hx rfl (hb hby at_21) hk) ?_
    exact J22 _
  · skip
    refine own_st (V := s₁.setTop (mkF m 17 #[.val (.int kk), .val (.int aa), .val (.int bb), .val (.int cc), .val (.int yy), .val (.int nn), .unset, .unset, .unset, .unset, .unset, .unset, .unset, .unset, .unset] [])) (fun _ hk => XS.ifNo X0.here hx rfl (hb hby at_14) rfl ((if0 _ _).trans (feq (show ¬ ((((bb.toUInt32 >>> ((16 : Int32) &&& 31).toUInt32).toInt32) &&& (1 : Int32)) = (0 : Int32)) from hc14)).1) hk) ?_
    refine own_st (V := s₁.setTop (mkF m 18 #[.val (.int kk), .val (.int aa), .val (.int bb), .val (.int cc), .val (.int yy), .val (.int nn), .unset, .unset, .unset, .unset, .unset, .unset, .unset, .unset, .unset] [(.int (1 : Int32))])) (fun _ hk => XS.iconst X0.here hx rfl (hb hby at_17) hk) ?_
    refine own_st (V := s₁.setTop (mkF m 22 #[.val (.int kk), .val (.int aa), .val (.int bb), .val (.int cc), .val (.int yy), .val (.int nn), .unset, .unset, .unset, .unset, .unset, .unset, .unset, .unset, .unset] [(.int (1 : Int32))])) (fun _ hk => XS.goto X0.here hx rfl (pc0 := 18) (pc' := 22) rfl (hb hby at_18) (by decide) (by decide) hk) ?_
    exact J22 _
theorem own_fldL {s : State} {args : Array Value} {t : Term} {x : Addr} {C n d : String} {z : Int64} (ht : t.eval args s none [] s = some (.ref x)) (h : (Jvm.Cond.eq (.field t C n d) (.long z)).before args s = true) : Fld s s.heap x C n d (.long z) := by
  have e1 := Cond.eq_long (n := z) h rfl
  rw [fld_at ht] at e1
  exact Fld.start e1
set_option maxRecDepth 65536 in
set_option maxHeartbeats 40000000 in
theorem comes_1 {Post : Tables → Env → Array Value → State → Outcome → State → Prop} (hpost : ∀ tb e args s v u, (limb_1_1.after args s (.returned v) u = true ∧ limb_1_2.after args s (.returned v) u = true ∧ True) → ReturnedEndW s (.returned v) u (Jvm.fieldLocs frame_1_writes args s ++ Jvm.arrayLocs frame_1_arrays args s ++ Jvm.staticLocs frame_1_statics s) 40 2240 → Post tb e args s (.returned v) u) :
    ArmFor flags0 classFile x code maxLocals ret World_1 tables_1 room_1 Calls_1 rest_1 Pre_1 Post := by
  intro l hfl _ _ p e ha hc hk s m args below hf hA hF happ hP
  obtain ⟨hcalls, hrest, hpre⟩ := hP
  obtain ⟨-, -, -, hnamed, -, -, -, hat⟩ := (Spec.applies_iff hf).mp happ
  obtain ⟨hg, hn⟩ := and_e (Cond.before_iff.mp (show (Jvm.Cond.and given_1 narrow_1).before args s = true from hpre))
  obtain ⟨h1, g0⟩ := and_e hg
  obtain ⟨k0, g1⟩ := and_e g0
  obtain ⟨k1, g2⟩ := and_e g1
  obtain ⟨k2, g3⟩ := and_e g2
  obtain ⟨k3, g4⟩ := and_e g3
  have k4 := g4
  obtain ⟨w0, w1, w2, w3, w4, rfl⟩ : ∃ w0 w1 w2 w3 w4 : Value, args = #[w0, w1, w2, w3, w4] := by
    have hs : args.size = 5 := by simpa [Cond.value, given_1] using h1
    obtain ⟨L⟩ := args
    match L, hs with
    | [w0, w1, w2, w3, w4], _ => exact ⟨w0, w1, w2, w3, w4, rfl⟩
  have hw := fun d (hd : d ∈ tables_1) => atoms_spec (ws := Jvm.Cond.code x code maxLocals ret :: tables_1) hat d (List.mem_cons_of_mem _ hd)
  obtain ⟨hsets, hown0⟩ := atoms_of _ (rest_1_c_eq ▸ (show rest_1_c.before _ s = true from hrest))
  have hr0 := Cond.before_iff.mp hown0
  have hfit : Fit s := fun {y c} hc i hi => by
    obtain ⟨ha, rfl⟩ := Array.getElem?_eq_some_iff.mp hc
    have q := List.all_eq_true.mp ((Array.all_eq_true_iff_forall_mem.mp hF) _ (Array.getElem_mem ha)) i (List.mem_range.mpr hi)
    simpa [Array.getElem?_eq_getElem hi] using q
  obtain ⟨kk, e_kk⟩ := is_v k0
  obtain rfl : w0 = (.int kk) := Option.some.inj e_kk
  obtain ⟨aa, e_aa⟩ := is_v k1
  obtain rfl : w1 = (.int aa) := Option.some.inj e_aa
  obtain ⟨bb, e_bb⟩ := is_v k2
  obtain rfl : w2 = (.int bb) := Option.some.inj e_bb
  obtain ⟨cc, e_cc⟩ := is_v k3
  obtain rfl : w3 = (.int cc) := Option.some.inj e_cc
  obtain ⟨yy, e_yy⟩ := is_v k4
  obtain rfl : w4 = (.int yy) := Option.some.inj e_yy
  obtain ⟨fd, efd⟩ := exa_v (Cond.before_iff.mp (hsets _ (List.mem_of_getElem? (i := 6) rfl)))
  have Sfd : Sta s s.heap "java/time/temporal/ChronoField" "EPOCH_DAY" "Ljava/time/temporal/ChronoField;" (.ref fd) := Sta.start efd (Or.inl (hsets _ (List.mem_of_getElem? (i := 1) rfl)))
  have Efd := Exa.start efd (Cond.before_iff.mp (hsets _ (List.mem_of_getElem? (i := 6) rfl)))
  obtain ⟨rg, erg⟩ := exa_v (Cond.before_iff.mp (hsets _ (List.mem_of_getElem? (i := 22) rfl)))
  have Ffd : Fld s s.heap fd "java/time/temporal/ChronoField" "range" "Ljava/time/temporal/ValueRange;" (.ref rg) := Fld.start ((fld_at efd).symm.trans erg)
  have Erg := Exa.start erg (Cond.before_iff.mp (hsets _ (List.mem_of_getElem? (i := 22) rfl)))
  have hE : own_EP s fd rg := ⟨Sfd, Efd, Ffd, Erg, own_fldL erg (hsets _ (List.mem_of_getElem? (i := 23) rfl)), own_fldL erg (hsets _ (List.mem_of_getElem? (i := 26) rfl))⟩
  obtain ⟨dc, edc⟩ := exa_v (Cond.before_iff.mp (hsets _ (List.mem_of_getElem? (i := 35) rfl)))
  have Sdc : Sta s s.heap "java/util/ArrayList" "DEFAULTCAPACITY_EMPTY_ELEMENTDATA" "[Ljava/lang/Object;" (.ref dc) := Sta.start edc (Or.inr ⟨(hw _ (List.mem_of_getElem? (i := 99) rfl)), (hsets _ (List.mem_of_getElem? (i := 30) rfl))⟩)
  obtain ⟨cldc, Ardc⟩ := Arr.start edc (Cond.before_iff.mp (hsets _ (List.mem_of_getElem? (i := 34) rfl)))
  obtain ⟨ltdc, szdc⟩ := own_len edc (Ardc.fin (Vm.Alike.refl s.vm)) (Cond.before_iff.mp (hsets _ (List.mem_of_getElem? (i := 36) rfl)))
  have Vdc : Arv s s.heap dc cldc.cls (.object "java/lang/Object") (0 : Int32) [] .null := Arv.start hfit Ardc ltdc szdc (by decide) rfl trivial
  obtain ⟨el, eel⟩ := exa_v (Cond.before_iff.mp (hsets _ (List.mem_of_getElem? (i := 39) rfl)))
  have Sel : Sta s s.heap "java/util/ImmutableCollections" "EMPTY_LIST" "Ljava/util/ImmutableCollections$ListN;" (.ref el) := Sta.start eel (Or.inl (hsets _ (List.mem_of_getElem? (i := 38) rfl)))
  have Eel := Exa.start eel (Cond.before_iff.mp (hsets _ (List.mem_of_getElem? (i := 39) rfl)))
  obtain ⟨ea, eea⟩ := arr_v (Cond.before_iff.mp (hsets _ (List.mem_of_getElem? (i := 40) rfl)))
  have Fel : Fld s s.heap el "java/util/ImmutableCollections$ListN" "elements" "[Ljava/lang/Object;" (.ref ea) := Fld.start ((fld_at eel).symm.trans eea)
  obtain ⟨clea, Area⟩ := Arr.start eea (Cond.before_iff.mp (hsets _ (List.mem_of_getElem? (i := 40) rfl)))
  obtain ⟨ltea, szea⟩ := own_len eea (Area.fin (Vm.Alike.refl s.vm)) (Cond.before_iff.mp (hsets _ (List.mem_of_getElem? (i := 42) rfl)))
  have Vea : Arv s s.heap ea clea.cls (.object "java/lang/Object") (0 : Int32) [] .null := Arv.start hfit Area ltea szea (by decide) rfl trivial
  obtain ⟨em, eem⟩ := exa_v (Cond.before_iff.mp (hsets _ (List.mem_of_getElem? (i := 46) rfl)))
  have Sem : Sta s s.heap "java/util/ImmutableCollections" "EMPTY" "Ljava/lang/Object;" (.ref em) := Sta.start eem (Or.inl (hsets _ (List.mem_of_getElem? (i := 45) rfl)))
  have Eem := Exa.start eem (Cond.before_iff.mp (hsets _ (List.mem_of_getElem? (i := 46) rfl)))
  obtain ⟨cM, kM, mr, hM1, hM2, hM3⟩ := hcalls.1
  have hT : own_ST s dc el ea em mr cldc.cls clea.cls := ⟨Sdc, Vdc, Sel, Eel, Fel, Vea, Sem, Eem, cM, kM, hM1, hM2, hM3⟩
  obtain ⟨n, o, h1, h2, h3, _, L, rfl, ⟨rfl, N⟩, hq⟩ := rm_law l s _ hw tables_1 kk aa bb cc yy fd rg dc el ea em mr cldc.cls clea.cls s.heap s.heap.size (Nat.le_refl _) (Old.start s) hT hE p e ha hc hk s m _ below hf ((Spec.applies_iff_loose hf).mp happ).1 ⟨rfl, State.Warmed39.refl s, rfl⟩ trivial
  refine ⟨n, _, h1, h2, h3, hpost _ _ _ _ _ _ ⟨Cond.after_iff.mpr rfl, Cond.after_iff.mpr (eq_i res_at (Term.int_eval (1)) rfl), trivial⟩ ⟨hq.1, hq.2.1, hq.2.2.1, (hq.2.2.2.sift fun y hy => Or.inr (N y hy)).mono (by decide) (by decide)⟩⟩
theorem main_1_1 : Claimed_1_1 := comes_1 fun _ _ _ _ _ _ h hF => ⟨h.1, hF⟩
theorem main_1_2 : Claimed_1_2 := comes_1 fun _ _ _ _ _ _ h hF => ⟨h.2.1, hF⟩
end Jvm.Pilot.@@N@@
namespace Jvm.Pilot.@@N@@
open Jvm Jvm.ClassFile Sem Op Lib Jvm.Free Jvm.Stand Jvm.Pilot.@@N@@.Jvm.D
/-! MADE BY PROGRAM (witnessworld.py) out of the Statement's table words and the real class files: 47 classes; the members and pool entries that the words name. The judged class is class 1, her method 1. -/
namespace start1
open Jvm.ClassFile
def u (s : String) : CpInfo := .utf8 (stringToUtf16 s)
/-- a pool by its gaps: so many unusable entries, then the entry; so many at the end -/
def gap : Nat → List CpInfo → List CpInfo
  | 0, r => r
  | n + 1, r => .unusable :: gap n r
def poolList (es : List (Nat × CpInfo)) (last : Nat) : List CpInfo := es.foldr (fun e r => gap e.1 (e.2 :: r)) (gap last [])
def pool (es : List (Nat × CpInfo)) (last : Nat) : Array CpInfo := ⟨poolList es last⟩
def fileOf (pool : Array CpInfo) (this : Nat) (attrs : Array Attribute := #[]) (ms : Array MethodInfo := #[]) (fl : Nat := 33) (sup : Nat := 0) (ifs : Array Nat := #[]) (fds : Array FieldInfo := #[]) : ClassFile where
  minorVersion := 0
  majorVersion := 65
  constantPool := pool
  accessFlags := fl
  thisClass := this
  superClass := sup
  interfaces := ifs
  fields := fds
  methods := ms
  attributes := attrs
def plain (name : String) (sup : Option ClassId) : Class where
  name := name
  kind := .ordinary
  loader := none
  accessFlags := 33
  super := sup
  interfaces := #[]
  cf := none
  fields := #[]
  methods := #[]
  instanceTypes := #[]
  staticTypes := #[]
  resolved := #[]
  callSites := []
  init := .initialized
  statics := none
  mirror := none

def pool0 : Array CpInfo := pool [(5, u "<init>"), (0, u "()V"), (1, .class_ 10), (1, u "java/lang/Object"), (0, u "getClass"), (0, u "()Ljava/lang/Class;")] 111

def k0c0 : Code := { maxStack := 0, maxLocals := 1, code := object_method_1_code, exceptionTable := #[], attributes := #[] }
def k0m0 : Method := { name := "<init>", desc := "()V", sig := { parameters := [], returnType := none }, accessFlags := 1, code := some k0c0 }
def k0m1 : Method := { name := "getClass", desc := "()Ljava/lang/Class;", sig := { parameters := [], returnType := some (.object "java/lang/Class") }, accessFlags := 273, code := none }
/-- java/lang/Object -/
def k0 : Class := { plain "java/lang/Object" none with
  accessFlags := 33
  interfaces := #[]
  cf := some (fileOf pool0 8 #[] #[{ accessFlags := 1, nameIndex := 5, descriptorIndex := 6, attributes := #[] }, { accessFlags := 273, nameIndex := 11, descriptorIndex := 12, attributes := #[] }] 33 0 #[] #[])
  fields := #[]
  methods := #[k0m0, k0m1]
  instanceTypes := #[]
  staticTypes := #[]
  resolved := Array.replicate 124 none
  statics := none }

def pool1 : Array CpInfo := pool [(2, .class_ 4), (0, .nameAndType 5 6), (0, u "java/lang/Object"), (0, u "<init>"), (0, u "()V"), (0, .integer 2147483647), (0, .methodref 9 10), (0, .class_ 11), (0, .nameAndType 12 13), (0, u "java/time/LocalDate"), (0, u "ofEpochDay"), (0, u "(J)Ljava/time/LocalDate;"), (0, .integer 65535), (0, .class_ 16), (0, u "com/example/vestline/vestline/service/SetAside"), (0, .methodref 15 18), (0, .nameAndType 5 19), (0, u "(Ljava/time/LocalDate;Ljava/time/LocalDate;)V"), (0, .class_ 21), (0, u "java/util/ArrayList"), (0, .methodref 20 3), (0, .methodref 20 24), (0, .nameAndType 25 26), (0, u "add"), (0, u "(Ljava/lang/Object;)Z"), (0, .class_ 28), (0, u "com/example/vestline/vestline/service/ServiceCount"), (0, .methodref 27 30), (0, .nameAndType 5 31), (0, u "(Ljava/util/List;ILjava/util/List;)V"), (0, .methodref 27 33), (0, .nameAndType 34 35), (0, u "setAsideBefore"), (0, u "()Ljava/time/LocalDate;"), (0, .class_ 37), (0, u "com/example/vestline/vestline/service/ServiceCountSetAsideBeforePinLaw"), (2, u "law"), (0, u "(IIIII)Z")] 3

def k1m0 : Method := { name := "<init>", desc := "()V", sig := { parameters := [], returnType := none }, accessFlags := 1, code := none }
def k1c1 : Code := { maxStack := 5, maxLocals := 15, code := code, exceptionTable := #[], attributes := #[] }
def k1m1 : Method := { name := "law", desc := "(IIIII)Z", sig := { parameters := [.int, .int, .int, .int, .int], returnType := some .boolean }, accessFlags := 9, code := some k1c1 }
/-- com/example/vestline/vestline/service/ServiceCountSetAsideBeforePinLaw -/
def k1 : Class := { plain "com/example/vestline/vestline/service/ServiceCountSetAsideBeforePinLaw" (some 0) with
  accessFlags := 49
  interfaces := #[]
  cf := some (fileOf pool1 36 #[] #[{ accessFlags := 1, nameIndex := 5, descriptorIndex := 6, attributes := #[] }, { accessFlags := 9, nameIndex := 40, descriptorIndex := 41, attributes := #[] }] 49 2 #[] #[])
  fields := #[]
  methods := #[k1m0, k1m1]
  instanceTypes := #[]
  staticTypes := #[]
  resolved := Array.replicate 45 none
  statics := none }

def pool2 : Array CpInfo := pool [(4, .class_ 6), (1, u "java/time/temporal/TemporalAccessor"), (95, .class_ 103), (0, u "java/lang/Object")] 21

/-- java/time/temporal/TemporalAccessor -/
def k2 : Class := { plain "java/time/temporal/TemporalAccessor" (some 0) with
  accessFlags := 1537
  interfaces := #[]
  cf := some (fileOf pool2 4 #[] #[] 1537 102 #[] #[])
  fields := #[]
  methods := #[]
  instanceTypes := #[]
  staticTypes := #[]
  resolved := Array.replicate 125 none
  statics := none }

def pool3 : Array CpInfo := pool [(22, .class_ 24), (1, u "java/time/temporal/Temporal"), (2, .class_ 28), (0, u "java/lang/Object"), (0, .class_ 30), (0, u "java/time/temporal/TemporalAccessor")] 25

/-- java/time/temporal/Temporal -/
def k3 : Class := { plain "java/time/temporal/Temporal" (some 0) with
  accessFlags := 1537
  interfaces := #[2]
  cf := some (fileOf pool3 22 #[] #[] 1537 27 #[29] #[])
  fields := #[]
  methods := #[]
  instanceTypes := #[]
  staticTypes := #[]
  resolved := Array.replicate 56 none
  statics := none }

def pool4 : Array CpInfo := pool [(1, .class_ 2), (0, u "java/time/temporal/TemporalAdjuster"), (0, .class_ 4), (0, u "java/lang/Object")] 6

/-- java/time/temporal/TemporalAdjuster -/
def k4 : Class := { plain "java/time/temporal/TemporalAdjuster" (some 0) with
  accessFlags := 1537
  interfaces := #[]
  cf := some (fileOf pool4 1 #[] #[] 1537 3 #[] #[])
  fields := #[]
  methods := #[]
  instanceTypes := #[]
  staticTypes := #[]
  resolved := Array.replicate 11 none
  statics := none }

def pool5 : Array CpInfo := pool [(1, .class_ 2), (0, u "java/lang/Comparable"), (0, .class_ 4), (0, u "java/lang/Object")] 7

/-- java/lang/Comparable -/
def k5 : Class := { plain "java/lang/Comparable" (some 0) with
  accessFlags := 1537
  interfaces := #[]
  cf := some (fileOf pool5 1 #[] #[] 1537 3 #[] #[])
  fields := #[]
  methods := #[]
  instanceTypes := #[]
  staticTypes := #[]
  resolved := Array.replicate 12 none
  statics := none }

def pool6 : Array CpInfo := pool [(9, .class_ 10), (0, u "java/time/chrono/ChronoLocalDate"), (104, .class_ 117), (1, u "java/time/temporal/Temporal"), (134, .class_ 253), (0, u "java/lang/Object"), (23, .class_ 278), (0, u "java/time/temporal/TemporalAdjuster"), (0, .class_ 280), (0, u "java/lang/Comparable")] 86

/-- java/time/chrono/ChronoLocalDate -/
def k6 : Class := { plain "java/time/chrono/ChronoLocalDate" (some 0) with
  accessFlags := 1537
  interfaces := #[3, 4, 5]
  cf := some (fileOf pool6 9 #[] #[] 1537 252 #[115, 277, 279] #[])
  fields := #[]
  methods := #[]
  instanceTypes := #[]
  staticTypes := #[]
  resolved := Array.replicate 367 none
  statics := none }

def pool7 : Array CpInfo := pool [(1, .class_ 2), (0, u "java/io/Serializable"), (0, .class_ 4), (0, u "java/lang/Object")] 2

/-- java/io/Serializable -/
def k7 : Class := { plain "java/io/Serializable" (some 0) with
  accessFlags := 1537
  interfaces := #[]
  cf := some (fileOf pool7 1 #[] #[] 1537 3 #[] #[])
  fields := #[]
  methods := #[]
  instanceTypes := #[]
  staticTypes := #[]
  resolved := Array.replicate 7 none
  statics := none }

def pool8 : Array CpInfo := pool [(1, .class_ 2), (0, u "java/time/LocalDate"), (37, .class_ 42), (1, u "java/time/temporal/ChronoField"), (1, u "Ljava/time/temporal/ChronoField;"), (0, .methodref 40 46), (0, .nameAndType 47 48), (0, u "checkValidValue"), (0, u "(J)J"), (1, u "month"), (34, .nameAndType 86 87), (0, u "<init>"), (0, u "()V"), (33, .methodref 1 122), (0, .nameAndType 86 123), (0, u "(III)V"), (35, u "ofEpochDay"), (0, u "(J)Ljava/time/LocalDate;"), (0, .fieldref 40 162), (0, .nameAndType 163 44), (0, u "EPOCH_DAY"), (0, .long 719528), (1, .long 60), (1, .long 146097), (1, .long 400), (1, .long 591), (1, .long 365), (1, .long 4), (1, .long 100), (64, .methodref 244 85), (0, .class_ 245), (0, u "java/lang/Object"), (0, .fieldref 1 247), (0, .nameAndType 248 249), (0, u "year"), (0, u "I"), (0, .fieldref 1 251), (0, .nameAndType 50 252), (0, u "S"), (0, .fieldref 1 254), (0, .nameAndType 255 252), (0, u "day"), (1, .class_ 259), (1, u "java/time/chrono/ChronoLocalDate"), (10, .class_ 272), (1, u "java/time/LocalDate$1"), (107, .class_ 382), (1, u "java/time/temporal/TemporalAdjuster"), (205, u "MAX"), (0, u "Ljava/time/LocalDate;"), (2, u "MIN"), (176, u "EPOCH"), (0, .class_ 771), (0, u "java/time/temporal/Temporal"), (0, .class_ 773), (0, u "java/io/Serializable"), (0, u "serialVersionUID"), (0, u "J"), (3, u "DAYS_PER_CYCLE"), (1, u "DAYS_0000_TO_1970")] 206

def k8c0 : Code := { maxStack := 8, maxLocals := 14, code := jdk_2323_method_8_code, exceptionTable := #[], attributes := #[] }
def k8m0 : Method := { name := "ofEpochDay", desc := "(J)Ljava/time/LocalDate;", sig := { parameters := [.long], returnType := some (.object "java/time/LocalDate") }, accessFlags := 9, code := some k8c0 }
def k8c1 : Code := { maxStack := 2, maxLocals := 4, code := jdk_2323_method_14_code, exceptionTable := #[], attributes := #[] }
def k8m1 : Method := { name := "<init>", desc := "(III)V", sig := { parameters := [.int, .int, .int], returnType := none }, accessFlags := 2, code := some k8c1 }
/-- java/time/LocalDate -/
def k8 : Class := { plain "java/time/LocalDate" (some 0) with
  accessFlags := 49
  interfaces := #[3, 4, 6, 7]
  cf := some (fileOf pool8 1 #[.nestMembers #[270]] #[{ accessFlags := 9, nameIndex := 159, descriptorIndex := 160, attributes := #[] }, { accessFlags := 2, nameIndex := 86, descriptorIndex := 123, attributes := #[] }] 49 244 #[770, 380, 257, 772] #[{ accessFlags := 25, nameIndex := 592, descriptorIndex := 589, attributes := #[] }, { accessFlags := 25, nameIndex := 588, descriptorIndex := 589, attributes := #[] }, { accessFlags := 25, nameIndex := 769, descriptorIndex := 589, attributes := #[] }, { accessFlags := 26, nameIndex := 774, descriptorIndex := 775, attributes := #[] }, { accessFlags := 26, nameIndex := 779, descriptorIndex := 249, attributes := #[] }, { accessFlags := 24, nameIndex := 781, descriptorIndex := 775, attributes := #[] }, { accessFlags := 18, nameIndex := 248, descriptorIndex := 249, attributes := #[] }, { accessFlags := 18, nameIndex := 50, descriptorIndex := 252, attributes := #[] }, { accessFlags := 18, nameIndex := 255, descriptorIndex := 252, attributes := #[] }])
  fields := #[{ name := "MIN", type := (.object "java/time/LocalDate"), accessFlags := 25, slot := 0, constantValue := 0 }, { name := "MAX", type := (.object "java/time/LocalDate"), accessFlags := 25, slot := 1, constantValue := 0 }, { name := "EPOCH", type := (.object "java/time/LocalDate"), accessFlags := 25, slot := 2, constantValue := 0 }, { name := "serialVersionUID", type := .long, accessFlags := 26, slot := 3, constantValue := 0 }, { name := "DAYS_PER_CYCLE", type := .int, accessFlags := 26, slot := 4, constantValue := 0 }, { name := "DAYS_0000_TO_1970", type := .long, accessFlags := 24, slot := 5, constantValue := 0 }, { name := "year", type := .int, accessFlags := 18, slot := 0, constantValue := 0 }, { name := "month", type := .short, accessFlags := 18, slot := 1, constantValue := 0 }, { name := "day", type := .short, accessFlags := 18, slot := 2, constantValue := 0 }]
  methods := #[k8m0, k8m1]
  instanceTypes := #[.int, .short, .short]
  staticTypes := #[(.object "java/time/LocalDate"), (.object "java/time/LocalDate"), (.object "java/time/LocalDate"), .long, .int, .long]
  resolved := Array.replicate 988 none
  statics := none }

def pool9 : Array CpInfo := pool [(1, .class_ 2), (0, u "java/lang/constant/Constable"), (0, .class_ 4), (0, u "java/lang/Object")] 6

/-- java/lang/constant/Constable -/
def k9 : Class := { plain "java/lang/constant/Constable" (some 0) with
  accessFlags := 1537
  interfaces := #[]
  cf := some (fileOf pool9 1 #[] #[] 1537 3 #[] #[])
  fields := #[]
  methods := #[]
  instanceTypes := #[]
  staticTypes := #[]
  resolved := Array.replicate 11 none
  statics := none }

def pool10 : Array CpInfo := pool [(2, .class_ 4), (1, u "java/lang/Enum"), (0, u "name"), (0, u "Ljava/lang/String;"), (2, u "ordinal"), (0, u "I"), (1, .class_ 14), (1, u "java/lang/Object"), (4, u "hash"), (86, .class_ 108), (1, u "java/lang/Enum$EnumDesc"), (2, .class_ 112), (0, u "java/lang/constant/Constable"), (0, .class_ 114), (0, u "java/lang/Comparable"), (0, .class_ 116), (0, u "java/io/Serializable")] 87

/-- java/lang/Enum -/
def k10 : Class := { plain "java/lang/Enum" (some 0) with
  accessFlags := 1057
  interfaces := #[9, 5, 7]
  cf := some (fileOf pool10 2 #[.nestMembers #[106]] #[] 1057 12 #[111, 113, 115] #[{ accessFlags := 18, nameIndex := 5, descriptorIndex := 6, attributes := #[] }, { accessFlags := 18, nameIndex := 9, descriptorIndex := 10, attributes := #[] }, { accessFlags := 2, nameIndex := 19, descriptorIndex := 10, attributes := #[] }])
  fields := #[{ name := "name", type := (.object "java/lang/String"), accessFlags := 18, slot := 0, constantValue := 0 }, { name := "ordinal", type := .int, accessFlags := 18, slot := 1, constantValue := 0 }, { name := "hash", type := .int, accessFlags := 2, slot := 2, constantValue := 0 }]
  methods := #[]
  instanceTypes := #[(.object "java/lang/String"), .int, .int]
  staticTypes := #[]
  resolved := Array.replicate 204 none
  statics := none }

def pool11 : Array CpInfo := pool [(10, .class_ 12), (1, u "java/time/temporal/TemporalField"), (2, .class_ 16), (0, u "java/lang/Object")] 39

/-- java/time/temporal/TemporalField -/
def k11 : Class := { plain "java/time/temporal/TemporalField" (some 0) with
  accessFlags := 1537
  interfaces := #[]
  cf := some (fileOf pool11 10 #[] #[] 1537 15 #[] #[])
  fields := #[]
  methods := #[]
  instanceTypes := #[]
  staticTypes := #[]
  resolved := Array.replicate 56 none
  statics := none }

def pool12 : Array CpInfo := pool [(1, .class_ 2), (0, u "java/time/temporal/ChronoField"), (2, u "NANO_OF_SECOND"), (0, u "Ljava/time/temporal/ChronoField;"), (2, u "NANO_OF_DAY"), (2, u "MICRO_OF_SECOND"), (2, u "MICRO_OF_DAY"), (2, u "MILLI_OF_SECOND"), (2, u "MILLI_OF_DAY"), (2, u "SECOND_OF_MINUTE"), (2, u "SECOND_OF_DAY"), (2, u "MINUTE_OF_HOUR"), (2, u "MINUTE_OF_DAY"), (2, u "HOUR_OF_AMPM"), (2, u "CLOCK_HOUR_OF_AMPM"), (2, u "HOUR_OF_DAY"), (2, u "CLOCK_HOUR_OF_DAY"), (2, u "AMPM_OF_DAY"), (2, u "DAY_OF_WEEK"), (2, u "ALIGNED_DAY_OF_WEEK_IN_MONTH"), (2, u "ALIGNED_DAY_OF_WEEK_IN_YEAR"), (2, u "DAY_OF_MONTH"), (2, u "DAY_OF_YEAR"), (2, u "EPOCH_DAY"), (2, u "ALIGNED_WEEK_OF_MONTH"), (2, u "ALIGNED_WEEK_OF_YEAR"), (2, u "MONTH_OF_YEAR"), (2, u "PROLEPTIC_MONTH"), (2, u "YEAR_OF_ERA"), (2, u "YEAR"), (2, u "ERA"), (2, u "INSTANT_SECONDS"), (2, u "OFFSET_SECONDS"), (2, u "$VALUES"), (0, u "[Ljava/time/temporal/ChronoField;"), (6, .class_ 106), (1, u "java/lang/Enum"), (8, u "name"), (0, u "Ljava/lang/String;"), (2, u "baseUnit"), (0, u "Ljava/time/temporal/TemporalUnit;"), (2, u "rangeUnit"), (0, .fieldref 1 125), (0, .nameAndType 126 127), (0, u "range"), (0, u "Ljava/time/temporal/ValueRange;"), (2, u "displayNameKey"), (59, .methodref 1 191), (0, .nameAndType 126 192), (0, u "()Ljava/time/temporal/ValueRange;"), (0, .methodref 194 195), (0, .class_ 196), (0, .nameAndType 197 198), (0, u "java/time/temporal/ValueRange"), (0, u "checkValidValue"), (0, u "(JLjava/time/temporal/TemporalField;)J"), (256, .class_ 456), (0, u "java/time/temporal/TemporalField"), (27, u "(J)J")] 22

def k12c0 : Code := { maxStack := 1, maxLocals := 1, code := jdk_2395_method_8_code, exceptionTable := #[], attributes := #[] }
def k12m0 : Method := { name := "range", desc := "()Ljava/time/temporal/ValueRange;", sig := { parameters := [], returnType := some (.object "java/time/temporal/ValueRange") }, accessFlags := 1, code := some k12c0 }
def k12c1 : Code := { maxStack := 4, maxLocals := 3, code := jdk_2395_method_11_code, exceptionTable := #[], attributes := #[] }
def k12m1 : Method := { name := "checkValidValue", desc := "(J)J", sig := { parameters := [.long], returnType := some .long }, accessFlags := 1, code := some k12c1 }
/-- java/time/temporal/ChronoField -/
def k12 : Class := { plain "java/time/temporal/ChronoField" (some 10) with
  accessFlags := 16433
  interfaces := #[11]
  cf := some (fileOf pool12 1 #[] #[{ accessFlags := 1, nameIndex := 126, descriptorIndex := 192, attributes := #[] }, { accessFlags := 1, nameIndex := 197, descriptorIndex := 484, attributes := #[] }] 16433 104 #[455] #[{ accessFlags := 16409, nameIndex := 5, descriptorIndex := 6, attributes := #[] }, { accessFlags := 16409, nameIndex := 9, descriptorIndex := 6, attributes := #[] }, { accessFlags := 16409, nameIndex := 12, descriptorIndex := 6, attributes := #[] }, { accessFlags := 16409, nameIndex := 15, descriptorIndex := 6, attributes := #[] }, { accessFlags := 16409, nameIndex := 18, descriptorIndex := 6, attributes := #[] }, { accessFlags := 16409, nameIndex := 21, descriptorIndex := 6, attributes := #[] }, { accessFlags := 16409, nameIndex := 24, descriptorIndex := 6, attributes := #[] }, { accessFlags := 16409, nameIndex := 27, descriptorIndex := 6, attributes := #[] }, { accessFlags := 16409, nameIndex := 30, descriptorIndex := 6, attributes := #[] }, { accessFlags := 16409, nameIndex := 33, descriptorIndex := 6, attributes := #[] }, { accessFlags := 16409, nameIndex := 36, descriptorIndex := 6, attributes := #[] }, { accessFlags := 16409, nameIndex := 39, descriptorIndex := 6, attributes := #[] }, { accessFlags := 16409, nameIndex := 42, descriptorIndex := 6, attributes := #[] }, { accessFlags := 16409, nameIndex := 45, descriptorIndex := 6, attributes := #[] }, { accessFlags := 16409, nameIndex := 48, descriptorIndex := 6, attributes := #[] }, { accessFlags := 16409, nameIndex := 51, descriptorIndex := 6, attributes := #[] }, { accessFlags := 16409, nameIndex := 54, descriptorIndex := 6, attributes := #[] }, { accessFlags := 16409, nameIndex := 57, descriptorIndex := 6, attributes := #[] }, { accessFlags := 16409, nameIndex := 60, descriptorIndex := 6, attributes := #[] }, { accessFlags := 16409, nameIndex := 63, descriptorIndex := 6, attributes := #[] }, { accessFlags := 16409, nameIndex := 66, descriptorIndex := 6, attributes := #[] }, { accessFlags := 16409, nameIndex := 69, descriptorIndex := 6, attributes := #[] }, { accessFlags := 16409, nameIndex := 72, descriptorIndex := 6, attributes := #[] }, { accessFlags := 16409, nameIndex := 75, descriptorIndex := 6, attributes := #[] }, { accessFlags := 16409, nameIndex := 78, descriptorIndex := 6, attributes := #[] }, { accessFlags := 16409, nameIndex := 81, descriptorIndex := 6, attributes := #[] }, { accessFlags := 16409, nameIndex := 84, descriptorIndex := 6, attributes := #[] }, { accessFlags := 16409, nameIndex := 87, descriptorIndex := 6, attributes := #[] }, { accessFlags := 16409, nameIndex := 90, descriptorIndex := 6, attributes := #[] }, { accessFlags := 16409, nameIndex := 93, descriptorIndex := 6, attributes := #[] }, { accessFlags := 18, nameIndex := 115, descriptorIndex := 116, attributes := #[] }, { accessFlags := 18, nameIndex := 119, descriptorIndex := 120, attributes := #[] }, { accessFlags := 18, nameIndex := 123, descriptorIndex := 120, attributes := #[] }, { accessFlags := 18, nameIndex := 126, descriptorIndex := 127, attributes := #[] }, { accessFlags := 18, nameIndex := 130, descriptorIndex := 116, attributes := #[] }, { accessFlags := 4122, nameIndex := 96, descriptorIndex := 97, attributes := #[] }])
  fields := #[{ name := "NANO_OF_SECOND", type := (.object "java/time/temporal/ChronoField"), accessFlags := 16409, slot := 0, constantValue := 0 }, { name := "NANO_OF_DAY", type := (.object "java/time/temporal/ChronoField"), accessFlags := 16409, slot := 1, constantValue := 0 }, { name := "MICRO_OF_SECOND", type := (.object "java/time/temporal/ChronoField"), accessFlags := 16409, slot := 2, constantValue := 0 }, { name := "MICRO_OF_DAY", type := (.object "java/time/temporal/ChronoField"), accessFlags := 16409, slot := 3, constantValue := 0 }, { name := "MILLI_OF_SECOND", type := (.object "java/time/temporal/ChronoField"), accessFlags := 16409, slot := 4, constantValue := 0 }, { name := "MILLI_OF_DAY", type := (.object "java/time/temporal/ChronoField"), accessFlags := 16409, slot := 5, constantValue := 0 }, { name := "SECOND_OF_MINUTE", type := (.object "java/time/temporal/ChronoField"), accessFlags := 16409, slot := 6, constantValue := 0 }, { name := "SECOND_OF_DAY", type := (.object "java/time/temporal/ChronoField"), accessFlags := 16409, slot := 7, constantValue := 0 }, { name := "MINUTE_OF_HOUR", type := (.object "java/time/temporal/ChronoField"), accessFlags := 16409, slot := 8, constantValue := 0 }, { name := "MINUTE_OF_DAY", type := (.object "java/time/temporal/ChronoField"), accessFlags := 16409, slot := 9, constantValue := 0 }, { name := "HOUR_OF_AMPM", type := (.object "java/time/temporal/ChronoField"), accessFlags := 16409, slot := 10, constantValue := 0 }, { name := "CLOCK_HOUR_OF_AMPM", type := (.object "java/time/temporal/ChronoField"), accessFlags := 16409, slot := 11, constantValue := 0 }, { name := "HOUR_OF_DAY", type := (.object "java/time/temporal/ChronoField"), accessFlags := 16409, slot := 12, constantValue := 0 }, { name := "CLOCK_HOUR_OF_DAY", type := (.object "java/time/temporal/ChronoField"), accessFlags := 16409, slot := 13, constantValue := 0 }, { name := "AMPM_OF_DAY", type := (.object "java/time/temporal/ChronoField"), accessFlags := 16409, slot := 14, constantValue := 0 }, { name := "DAY_OF_WEEK", type := (.object "java/time/temporal/ChronoField"), accessFlags := 16409, slot := 15, constantValue := 0 }, { name := "ALIGNED_DAY_OF_WEEK_IN_MONTH", type := (.object "java/time/temporal/ChronoField"), accessFlags := 16409, slot := 16, constantValue := 0 }, { name := "ALIGNED_DAY_OF_WEEK_IN_YEAR", type := (.object "java/time/temporal/ChronoField"), accessFlags := 16409, slot := 17, constantValue := 0 }, { name := "DAY_OF_MONTH", type := (.object "java/time/temporal/ChronoField"), accessFlags := 16409, slot := 18, constantValue := 0 }, { name := "DAY_OF_YEAR", type := (.object "java/time/temporal/ChronoField"), accessFlags := 16409, slot := 19, constantValue := 0 }, { name := "EPOCH_DAY", type := (.object "java/time/temporal/ChronoField"), accessFlags := 16409, slot := 20, constantValue := 0 }, { name := "ALIGNED_WEEK_OF_MONTH", type := (.object "java/time/temporal/ChronoField"), accessFlags := 16409, slot := 21, constantValue := 0 }, { name := "ALIGNED_WEEK_OF_YEAR", type := (.object "java/time/temporal/ChronoField"), accessFlags := 16409, slot := 22, constantValue := 0 }, { name := "MONTH_OF_YEAR", type := (.object "java/time/temporal/ChronoField"), accessFlags := 16409, slot := 23, constantValue := 0 }, { name := "PROLEPTIC_MONTH", type := (.object "java/time/temporal/ChronoField"), accessFlags := 16409, slot := 24, constantValue := 0 }, { name := "YEAR_OF_ERA", type := (.object "java/time/temporal/ChronoField"), accessFlags := 16409, slot := 25, constantValue := 0 }, { name := "YEAR", type := (.object "java/time/temporal/ChronoField"), accessFlags := 16409, slot := 26, constantValue := 0 }, { name := "ERA", type := (.object "java/time/temporal/ChronoField"), accessFlags := 16409, slot := 27, constantValue := 0 }, { name := "INSTANT_SECONDS", type := (.object "java/time/temporal/ChronoField"), accessFlags := 16409, slot := 28, constantValue := 0 }, { name := "OFFSET_SECONDS", type := (.object "java/time/temporal/ChronoField"), accessFlags := 16409, slot := 29, constantValue := 0 }, { name := "name", type := (.object "java/lang/String"), accessFlags := 18, slot := 3, constantValue := 0 }, { name := "baseUnit", type := (.object "java/time/temporal/TemporalUnit"), accessFlags := 18, slot := 4, constantValue := 0 }, { name := "rangeUnit", type := (.object "java/time/temporal/TemporalUnit"), accessFlags := 18, slot := 5, constantValue := 0 }, { name := "range", type := (.object "java/time/temporal/ValueRange"), accessFlags := 18, slot := 6, constantValue := 0 }, { name := "displayNameKey", type := (.object "java/lang/String"), accessFlags := 18, slot := 7, constantValue := 0 }, { name := "$VALUES", type := (.array (.object "java/time/temporal/ChronoField")), accessFlags := 4122, slot := 30, constantValue := 0 }]
  methods := #[k12m0, k12m1]
  instanceTypes := #[(.object "java/lang/String"), .int, .int, (.object "java/lang/String"), (.object "java/time/temporal/TemporalUnit"), (.object "java/time/temporal/TemporalUnit"), (.object "java/time/temporal/ValueRange"), (.object "java/lang/String")]
  staticTypes := #[(.object "java/time/temporal/ChronoField"), (.object "java/time/temporal/ChronoField"), (.object "java/time/temporal/ChronoField"), (.object "java/time/temporal/ChronoField"), (.object "java/time/temporal/ChronoField"), (.object "java/time/temporal/ChronoField"), (.object "java/time/temporal/ChronoField"), (.object "java/time/temporal/ChronoField"), (.object "java/time/temporal/ChronoField"), (.object "java/time/temporal/ChronoField"), (.object "java/time/temporal/ChronoField"), (.object "java/time/temporal/ChronoField"), (.object "java/time/temporal/ChronoField"), (.object "java/time/temporal/ChronoField"), (.object "java/time/temporal/ChronoField"), (.object "java/time/temporal/ChronoField"), (.object "java/time/temporal/ChronoField"), (.object "java/time/temporal/ChronoField"), (.object "java/time/temporal/ChronoField"), (.object "java/time/temporal/ChronoField"), (.object "java/time/temporal/ChronoField"), (.object "java/time/temporal/ChronoField"), (.object "java/time/temporal/ChronoField"), (.object "java/time/temporal/ChronoField"), (.object "java/time/temporal/ChronoField"), (.object "java/time/temporal/ChronoField"), (.object "java/time/temporal/ChronoField"), (.object "java/time/temporal/ChronoField"), (.object "java/time/temporal/ChronoField"), (.object "java/time/temporal/ChronoField"), (.array (.object "java/time/temporal/ChronoField"))]
  resolved := Array.replicate 507 none
  statics := some 0 }

def pool13 : Array CpInfo := pool [(9, .class_ 10), (0, u "java/time/temporal/ValueRange"), (18, .class_ 31), (1, u "java/lang/Object"), (1, .fieldref 9 34), (0, .nameAndType 35 36), (0, u "minSmallest"), (0, u "J"), (2, u "minLargest"), (2, u "maxSmallest"), (0, .fieldref 9 44), (0, .nameAndType 45 36), (0, u "maxLargest"), (0, .methodref 9 47), (0, .nameAndType 48 49), (0, u "getMinimum"), (0, u "()J"), (4, .methodref 9 55), (0, .nameAndType 56 49), (0, u "getMaximum"), (6, .methodref 9 64), (0, .nameAndType 65 66), (0, u "isValidValue"), (0, u "(J)Z"), (54, .class_ 122), (0, u "java/io/Serializable"), (0, u "serialVersionUID"), (17, u "checkValidValue"), (0, u "(JLjava/time/temporal/TemporalField;)J")] 24

def k13c0 : Code := { maxStack := 2, maxLocals := 1, code := jdk_2423_method_6_code, exceptionTable := #[], attributes := #[] }
def k13m0 : Method := { name := "getMinimum", desc := "()J", sig := { parameters := [], returnType := some .long }, accessFlags := 1, code := some k13c0 }
def k13c1 : Code := { maxStack := 2, maxLocals := 1, code := jdk_2423_method_9_code, exceptionTable := #[], attributes := #[] }
def k13m1 : Method := { name := "getMaximum", desc := "()J", sig := { parameters := [], returnType := some .long }, accessFlags := 1, code := some k13c1 }
def k13c2 : Code := { maxStack := 4, maxLocals := 3, code := jdk_2423_method_11_code, exceptionTable := #[], attributes := #[] }
def k13m2 : Method := { name := "isValidValue", desc := "(J)Z", sig := { parameters := [.long], returnType := some .boolean }, accessFlags := 1, code := some k13c2 }
def k13c3 : Code := { maxStack := 6, maxLocals := 4, code := jdk_2423_method_13_code, exceptionTable := #[], attributes := #[] }
def k13m3 : Method := { name := "checkValidValue", desc := "(JLjava/time/temporal/TemporalField;)J", sig := { parameters := [.long, (.object "java/time/temporal/TemporalField")], returnType := some .long }, accessFlags := 1, code := some k13c3 }
/-- java/time/temporal/ValueRange -/
def k13 : Class := { plain "java/time/temporal/ValueRange" (some 0) with
  accessFlags := 49
  interfaces := #[7]
  cf := some (fileOf pool13 9 #[] #[{ accessFlags := 1, nameIndex := 48, descriptorIndex := 49, attributes := #[] }, { accessFlags := 1, nameIndex := 56, descriptorIndex := 49, attributes := #[] }, { accessFlags := 1, nameIndex := 65, descriptorIndex := 66, attributes := #[] }, { accessFlags := 1, nameIndex := 141, descriptorIndex := 142, attributes := #[] }] 49 29 #[121] #[{ accessFlags := 26, nameIndex := 123, descriptorIndex := 36, attributes := #[] }, { accessFlags := 18, nameIndex := 35, descriptorIndex := 36, attributes := #[] }, { accessFlags := 18, nameIndex := 39, descriptorIndex := 36, attributes := #[] }, { accessFlags := 18, nameIndex := 42, descriptorIndex := 36, attributes := #[] }, { accessFlags := 18, nameIndex := 45, descriptorIndex := 36, attributes := #[] }])
  fields := #[{ name := "serialVersionUID", type := .long, accessFlags := 26, slot := 0, constantValue := 0 }, { name := "minSmallest", type := .long, accessFlags := 18, slot := 0, constantValue := 0 }, { name := "minLargest", type := .long, accessFlags := 18, slot := 1, constantValue := 0 }, { name := "maxSmallest", type := .long, accessFlags := 18, slot := 2, constantValue := 0 }, { name := "maxLargest", type := .long, accessFlags := 18, slot := 3, constantValue := 0 }]
  methods := #[k13m0, k13m1, k13m2, k13m3]
  instanceTypes := #[.long, .long, .long, .long]
  staticTypes := #[.long]
  resolved := Array.replicate 167 none
  statics := none }

def pool14 : Array CpInfo := pool [(1, .methodref 2 3), (0, .class_ 4), (0, .nameAndType 5 6), (0, u "java/lang/Object"), (0, u "<init>"), (0, u "()V"), (0, .class_ 8), (0, u "java/lang/Record")] 13

def k14c0 : Code := { maxStack := 1, maxLocals := 1, code := jdk_30_method_1_code, exceptionTable := #[], attributes := #[] }
def k14m0 : Method := { name := "<init>", desc := "()V", sig := { parameters := [], returnType := none }, accessFlags := 4, code := some k14c0 }
/-- java/lang/Record -/
def k14 : Class := { plain "java/lang/Record" (some 0) with
  accessFlags := 1057
  interfaces := #[]
  cf := some (fileOf pool14 7 #[] #[{ accessFlags := 4, nameIndex := 5, descriptorIndex := 6, attributes := #[] }] 1057 2 #[] #[])
  fields := #[]
  methods := #[k14m0]
  instanceTypes := #[]
  staticTypes := #[]
  resolved := Array.replicate 22 none
  statics := none }

def pool15 : Array CpInfo := pool [(1, .methodref 2 3), (0, .class_ 4), (0, .nameAndType 5 6), (0, u "java/lang/Record"), (0, u "<init>"), (0, u "()V"), (0, .string 8), (0, u "before"), (0, .methodref 10 11), (0, .class_ 12), (0, .nameAndType 13 14), (0, u "java/util/Objects"), (0, u "requireNonNull"), (0, u "(Ljava/lang/Object;Ljava/lang/String;)Ljava/lang/Object;"), (0, .string 16), (0, u "on"), (0, .fieldref 18 19), (0, .class_ 20), (0, .nameAndType 8 21), (0, u "com/example/vestline/vestline/service/SetAside"), (0, u "Ljava/time/LocalDate;"), (0, .fieldref 18 23), (0, .nameAndType 16 21), (12, u "(Ljava/time/LocalDate;Ljava/time/LocalDate;)V"), (6, u "()Ljava/time/LocalDate;")] 21

def k15c0 : Code := { maxStack := 2, maxLocals := 3, code := prog_80_method_1_code, exceptionTable := #[], attributes := #[] }
def k15m0 : Method := { name := "<init>", desc := "(Ljava/time/LocalDate;Ljava/time/LocalDate;)V", sig := { parameters := [(.object "java/time/LocalDate"), (.object "java/time/LocalDate")], returnType := none }, accessFlags := 1, code := some k15c0 }
def k15c1 : Code := { maxStack := 1, maxLocals := 1, code := prog_80_method_5_code, exceptionTable := #[], attributes := #[] }
def k15m1 : Method := { name := "before", desc := "()Ljava/time/LocalDate;", sig := { parameters := [], returnType := some (.object "java/time/LocalDate") }, accessFlags := 1, code := some k15c1 }
/-- com/example/vestline/vestline/service/SetAside -/
def k15 : Class := { plain "com/example/vestline/vestline/service/SetAside" (some 14) with
  accessFlags := 49
  interfaces := #[]
  cf := some (fileOf pool15 18 #[] #[{ accessFlags := 1, nameIndex := 5, descriptorIndex := 36, attributes := #[] }, { accessFlags := 1, nameIndex := 8, descriptorIndex := 43, attributes := #[] }] 49 2 #[] #[{ accessFlags := 18, nameIndex := 8, descriptorIndex := 21, attributes := #[] }, { accessFlags := 18, nameIndex := 16, descriptorIndex := 21, attributes := #[] }])
  fields := #[{ name := "before", type := (.object "java/time/LocalDate"), accessFlags := 18, slot := 0, constantValue := 0 }, { name := "on", type := (.object "java/time/LocalDate"), accessFlags := 18, slot := 1, constantValue := 0 }]
  methods := #[k15m0, k15m1]
  instanceTypes := #[(.object "java/time/LocalDate"), (.object "java/time/LocalDate")]
  staticTypes := #[]
  resolved := Array.replicate 65 none
  statics := none }

def pool16 : Array CpInfo := pool [(2, .class_ 4), (1, u "java/lang/CharSequence"), (42, .class_ 48), (0, u "java/lang/CharSequence$1CodePointIterator"), (10, .class_ 60), (0, u "java/lang/CharSequence$1CharIterator"), (5, .class_ 67), (0, u "java/lang/Object")] 63

/-- java/lang/CharSequence -/
def k16 : Class := { plain "java/lang/CharSequence" (some 0) with
  accessFlags := 1537
  interfaces := #[]
  cf := some (fileOf pool16 2 #[.nestMembers #[47, 59]] #[] 1537 66 #[] #[])
  fields := #[]
  methods := #[]
  instanceTypes := #[]
  staticTypes := #[]
  resolved := Array.replicate 131 none
  statics := none }

def pool17 : Array CpInfo := pool [(1, .class_ 2), (0, u "java/lang/constant/ConstantDesc"), (0, .class_ 4), (0, u "java/lang/Object")] 32

/-- java/lang/constant/ConstantDesc -/
def k17 : Class := { plain "java/lang/constant/ConstantDesc" (some 0) with
  accessFlags := 1537
  interfaces := #[]
  cf := some (fileOf pool17 1 #[] #[] 1537 3 #[] #[])
  fields := #[]
  methods := #[]
  instanceTypes := #[]
  staticTypes := #[]
  resolved := Array.replicate 37 none
  statics := none }

def pool18 : Array CpInfo := pool [(2, .class_ 4), (1, u "java/lang/Object"), (0, u "<init>"), (0, u "()V"), (3, .class_ 12), (1, u "java/lang/String"), (0, u "value"), (0, u "[B"), (2, u "coder"), (0, u "B"), (2, u "hash"), (0, u "I"), (2, u "hashIsZero"), (0, u "Z"), (13, u "COMPACT_STRINGS"), (534, .class_ 576), (0, u "java/lang/CharSequence"), (22, u "CASE_INSENSITIVE_ORDER"), (0, u "Ljava/util/Comparator;"), (500, u "serialPersistentFields"), (0, u "[Ljava/io/ObjectStreamField;"), (0, .class_ 1104), (0, u "java/lang/String$CaseInsensitiveComparator"), (1, .class_ 1107), (0, u "java/io/Serializable"), (0, .class_ 1109), (0, u "java/lang/Comparable"), (0, .class_ 1111), (0, u "java/lang/constant/Constable"), (0, .class_ 1113), (0, u "java/lang/constant/ConstantDesc"), (2, u "serialVersionUID"), (0, u "J"), (3, u "REPL"), (0, u "C"), (2, u "LATIN1"), (1, u "UTF16")] 323

def k18m0 : Method := { name := "<init>", desc := "()V", sig := { parameters := [], returnType := none }, accessFlags := 1, code := none }
/-- java/lang/String -/
def k18 : Class := { plain "java/lang/String" (some 0) with
  accessFlags := 49
  interfaces := #[7, 5, 16, 9, 17]
  cf := some (fileOf pool18 10 #[.nestMembers #[1103]] #[{ accessFlags := 1, nameIndex := 5, descriptorIndex := 6, attributes := #[] }] 49 2 #[1106, 1108, 575, 1110, 1112] #[{ accessFlags := 18, nameIndex := 13, descriptorIndex := 14, attributes := #[] }, { accessFlags := 18, nameIndex := 17, descriptorIndex := 18, attributes := #[] }, { accessFlags := 2, nameIndex := 21, descriptorIndex := 22, attributes := #[] }, { accessFlags := 2, nameIndex := 25, descriptorIndex := 26, attributes := #[] }, { accessFlags := 26, nameIndex := 1116, descriptorIndex := 1117, attributes := #[] }, { accessFlags := 24, nameIndex := 40, descriptorIndex := 26, attributes := #[] }, { accessFlags := 26, nameIndex := 1101, descriptorIndex := 1102, attributes := #[] }, { accessFlags := 26, nameIndex := 1121, descriptorIndex := 1122, attributes := #[] }, { accessFlags := 25, nameIndex := 599, descriptorIndex := 600, attributes := #[] }, { accessFlags := 24, nameIndex := 1125, descriptorIndex := 18, attributes := #[] }, { accessFlags := 24, nameIndex := 1127, descriptorIndex := 18, attributes := #[] }])
  fields := #[{ name := "value", type := (.array .byte), accessFlags := 18, slot := 0, constantValue := 0 }, { name := "coder", type := .byte, accessFlags := 18, slot := 1, constantValue := 0 }, { name := "hash", type := .int, accessFlags := 2, slot := 2, constantValue := 0 }, { name := "hashIsZero", type := .boolean, accessFlags := 2, slot := 3, constantValue := 0 }, { name := "serialVersionUID", type := .long, accessFlags := 26, slot := 0, constantValue := 0 }, { name := "COMPACT_STRINGS", type := .boolean, accessFlags := 24, slot := 1, constantValue := 0 }, { name := "serialPersistentFields", type := (.array (.object "java/io/ObjectStreamField")), accessFlags := 26, slot := 2, constantValue := 0 }, { name := "REPL", type := .char, accessFlags := 26, slot := 3, constantValue := 0 }, { name := "CASE_INSENSITIVE_ORDER", type := (.object "java/util/Comparator"), accessFlags := 25, slot := 4, constantValue := 0 }, { name := "LATIN1", type := .byte, accessFlags := 24, slot := 5, constantValue := 0 }, { name := "UTF16", type := .byte, accessFlags := 24, slot := 6, constantValue := 0 }]
  methods := #[k18m0]
  instanceTypes := #[(.array .byte), .byte, .int, .boolean]
  staticTypes := #[.long, .boolean, (.array (.object "java/io/ObjectStreamField")), .char, (.object "java/util/Comparator"), .byte, .byte]
  resolved := Array.replicate 1451 none
  statics := none }

def pool19 : Array CpInfo := pool [(2, .class_ 4), (1, u "java/lang/Object"), (0, u "<init>"), (0, u "()V"), (35, .class_ 44), (1, u "java/util/Objects"), (0, u "requireNonNull"), (0, u "(Ljava/lang/Object;)Ljava/lang/Object;"), (47, u "(Ljava/lang/Object;Ljava/lang/String;)Ljava/lang/Object;")] 89

def k19m0 : Method := { name := "<init>", desc := "()V", sig := { parameters := [], returnType := none }, accessFlags := 2, code := none }
def k19c1 : Code := { maxStack := 2, maxLocals := 1, code := jdk_31_method_10_code, exceptionTable := #[], attributes := #[] }
def k19m1 : Method := { name := "requireNonNull", desc := "(Ljava/lang/Object;)Ljava/lang/Object;", sig := { parameters := [(.object "java/lang/Object")], returnType := some (.object "java/lang/Object") }, accessFlags := 9, code := some k19c1 }
def k19c2 : Code := { maxStack := 3, maxLocals := 2, code := jdk_31_method_11_code, exceptionTable := #[], attributes := #[] }
def k19m2 : Method := { name := "requireNonNull", desc := "(Ljava/lang/Object;Ljava/lang/String;)Ljava/lang/Object;", sig := { parameters := [(.object "java/lang/Object"), (.object "java/lang/String")], returnType := some (.object "java/lang/Object") }, accessFlags := 9, code := some k19c2 }
/-- java/util/Objects -/
def k19 : Class := { plain "java/util/Objects" (some 0) with
  accessFlags := 49
  interfaces := #[]
  cf := some (fileOf pool19 42 #[] #[{ accessFlags := 2, nameIndex := 5, descriptorIndex := 6, attributes := #[] }, { accessFlags := 9, nameIndex := 45, descriptorIndex := 46, attributes := #[] }, { accessFlags := 9, nameIndex := 45, descriptorIndex := 94, attributes := #[] }] 49 2 #[] #[])
  fields := #[]
  methods := #[k19m0, k19m1, k19m2]
  instanceTypes := #[]
  staticTypes := #[]
  resolved := Array.replicate 184 none
  statics := none }

def pool20 : Array CpInfo := pool [(8, .class_ 10), (1, u "java/lang/Iterable"), (24, .class_ 36), (0, u "java/lang/Object")] 25

/-- java/lang/Iterable -/
def k20 : Class := { plain "java/lang/Iterable" (some 0) with
  accessFlags := 1537
  interfaces := #[]
  cf := some (fileOf pool20 8 #[] #[] 1537 35 #[] #[])
  fields := #[]
  methods := #[]
  instanceTypes := #[]
  staticTypes := #[]
  resolved := Array.replicate 62 none
  statics := none }

def pool21 : Array CpInfo := pool [(10, .class_ 12), (1, u "java/util/Collection"), (0, u "toArray"), (16, u "()Z"), (29, .class_ 61), (0, u "java/lang/Object"), (0, .class_ 63), (0, u "java/lang/Iterable"), (2, u "isEmpty"), (3, u "()[Ljava/lang/Object;")] 44

def k21m0 : Method := { name := "isEmpty", desc := "()Z", sig := { parameters := [], returnType := some .boolean }, accessFlags := 1025, code := none }
def k21m1 : Method := { name := "toArray", desc := "()[Ljava/lang/Object;", sig := { parameters := [], returnType := some (.array (.object "java/lang/Object")) }, accessFlags := 1025, code := none }
/-- java/util/Collection -/
def k21 : Class := { plain "java/util/Collection" (some 0) with
  accessFlags := 1537
  interfaces := #[20]
  cf := some (fileOf pool21 10 #[] #[{ accessFlags := 1025, nameIndex := 66, descriptorIndex := 30, attributes := #[] }, { accessFlags := 1025, nameIndex := 13, descriptorIndex := 70, attributes := #[] }] 1537 60 #[62] #[])
  fields := #[]
  methods := #[k21m0, k21m1]
  instanceTypes := #[]
  staticTypes := #[]
  resolved := Array.replicate 115 none
  statics := none }

def pool22 : Array CpInfo := pool [(1, .methodref 2 3), (0, .class_ 4), (0, .nameAndType 5 6), (0, u "java/lang/Object"), (0, u "<init>"), (0, u "()V"), (1, .class_ 10), (1, u "java/util/AbstractCollection"), (66, .class_ 78), (0, u "java/util/Collection")] 81

def k22c0 : Code := { maxStack := 1, maxLocals := 1, code := jdk_22_method_1_code, exceptionTable := #[], attributes := #[] }
def k22m0 : Method := { name := "<init>", desc := "()V", sig := { parameters := [], returnType := none }, accessFlags := 4, code := some k22c0 }
/-- java/util/AbstractCollection -/
def k22 : Class := { plain "java/util/AbstractCollection" (some 0) with
  accessFlags := 1057
  interfaces := #[21]
  cf := some (fileOf pool22 8 #[] #[{ accessFlags := 4, nameIndex := 5, descriptorIndex := 6, attributes := #[] }] 1057 2 #[77] #[])
  fields := #[]
  methods := #[k22m0]
  instanceTypes := #[]
  staticTypes := #[]
  resolved := Array.replicate 160 none
  statics := none }

def pool23 : Array CpInfo := pool [(8, .class_ 10), (1, u "java/util/SequencedCollection"), (15, .class_ 27), (0, u "java/lang/Object"), (0, .class_ 29), (0, u "java/util/Collection")] 27

/-- java/util/SequencedCollection -/
def k23 : Class := { plain "java/util/SequencedCollection" (some 0) with
  accessFlags := 1537
  interfaces := #[21]
  cf := some (fileOf pool23 8 #[] #[] 1537 26 #[28] #[])
  fields := #[]
  methods := #[]
  instanceTypes := #[]
  staticTypes := #[]
  resolved := Array.replicate 57 none
  statics := none }

def pool24 : Array CpInfo := pool [(8, .class_ 10), (1, u "java/util/List"), (7, u "()Z"), (12, u "(Ljava/lang/Object;)V"), (16, u "<init>"), (18, u "isEmpty"), (7, u "get"), (0, u "(I)Ljava/lang/Object;"), (2, u "size"), (0, u "()I"), (7, u "of"), (1, .fieldref 91 92), (0, .class_ 93), (0, .nameAndType 94 95), (0, u "java/util/ImmutableCollections"), (0, u "EMPTY_LIST"), (0, u "Ljava/util/ImmutableCollections$ListN;"), (0, .class_ 97), (0, u "java/util/ImmutableCollections$List12"), (0, .methodref 96 99), (0, .nameAndType 48 31), (0, .methodref 96 101), (0, .nameAndType 48 102), (0, u "(Ljava/lang/Object;Ljava/lang/Object;)V"), (0, .class_ 104), (0, u "java/lang/Object"), (3, u "([Ljava/lang/Object;)Ljava/util/List;"), (3, .methodref 91 113), (0, .nameAndType 114 115), (0, u "listCopy"), (0, u "(Ljava/util/Collection;)Ljava/util/List;"), (3, u "()Ljava/util/List;"), (0, .class_ 121), (0, u "java/util/SequencedCollection"), (112, u "copyOf")] 16

def k24m0 : Method := { name := "size", desc := "()I", sig := { parameters := [], returnType := some .int }, accessFlags := 1025, code := none }
def k24m1 : Method := { name := "isEmpty", desc := "()Z", sig := { parameters := [], returnType := some .boolean }, accessFlags := 1025, code := none }
def k24m2 : Method := { name := "get", desc := "(I)Ljava/lang/Object;", sig := { parameters := [.int], returnType := some (.object "java/lang/Object") }, accessFlags := 1025, code := none }
def k24c3 : Code := { maxStack := 1, maxLocals := 0, code := jdk_40_method_36_code, exceptionTable := #[], attributes := #[] }
def k24m3 : Method := { name := "of", desc := "()Ljava/util/List;", sig := { parameters := [], returnType := some (.object "java/util/List") }, accessFlags := 9, code := some k24c3 }
def k24c4 : Code := { maxStack := 5, maxLocals := 2, code := jdk_40_method_47_code, exceptionTable := #[], attributes := #[] }
def k24m4 : Method := { name := "of", desc := "([Ljava/lang/Object;)Ljava/util/List;", sig := { parameters := [(.array (.object "java/lang/Object"))], returnType := some (.object "java/util/List") }, accessFlags := 137, code := some k24c4 }
def k24c5 : Code := { maxStack := 1, maxLocals := 1, code := jdk_40_method_48_code, exceptionTable := #[], attributes := #[] }
def k24m5 : Method := { name := "copyOf", desc := "(Ljava/util/Collection;)Ljava/util/List;", sig := { parameters := [(.object "java/util/Collection")], returnType := some (.object "java/util/List") }, accessFlags := 9, code := some k24c5 }
/-- java/util/List -/
def k24 : Class := { plain "java/util/List" (some 0) with
  accessFlags := 1537
  interfaces := #[23]
  cf := some (fileOf pool24 8 #[] #[{ accessFlags := 1025, nameIndex := 79, descriptorIndex := 80, attributes := #[] }, { accessFlags := 1025, nameIndex := 67, descriptorIndex := 18, attributes := #[] }, { accessFlags := 1025, nameIndex := 75, descriptorIndex := 76, attributes := #[] }, { accessFlags := 9, nameIndex := 88, descriptorIndex := 119, attributes := #[] }, { accessFlags := 137, nameIndex := 88, descriptorIndex := 108, attributes := #[] }, { accessFlags := 9, nameIndex := 234, descriptorIndex := 115, attributes := #[] }] 1537 103 #[120] #[])
  fields := #[]
  methods := #[k24m0, k24m1, k24m2, k24m3, k24m4, k24m5]
  instanceTypes := #[]
  staticTypes := #[]
  resolved := Array.replicate 251 none
  statics := none }

def pool25 : Array CpInfo := pool [(1, .methodref 2 3), (0, .class_ 4), (0, .nameAndType 5 6), (0, u "java/util/AbstractCollection"), (0, u "<init>"), (0, u "()V"), (0, .fieldref 8 9), (0, .class_ 10), (0, .nameAndType 11 12), (0, u "java/util/AbstractList"), (0, u "modCount"), (0, u "I"), (64, .class_ 78), (0, u "java/util/AbstractList$Itr"), (3, .class_ 83), (0, u "java/util/AbstractList$ListItr"), (9, .class_ 94), (0, u "java/util/AbstractList$RandomAccessSubList"), (3, .class_ 99), (0, u "java/util/AbstractList$SubList"), (33, .class_ 134), (0, u "java/util/List"), (73, .class_ 209), (0, u "java/util/AbstractList$SubList$1"), (0, .class_ 211), (0, u "java/util/AbstractList$RandomAccessSpliterator")] 6

def k25c0 : Code := { maxStack := 2, maxLocals := 1, code := jdk_39_method_1_code, exceptionTable := #[], attributes := #[] }
def k25m0 : Method := { name := "<init>", desc := "()V", sig := { parameters := [], returnType := none }, accessFlags := 4, code := some k25c0 }
/-- java/util/AbstractList -/
def k25 : Class := { plain "java/util/AbstractList" (some 22) with
  accessFlags := 1057
  interfaces := #[24]
  cf := some (fileOf pool25 8 #[.nestMembers #[93, 98, 208, 210, 82, 77]] #[{ accessFlags := 4, nameIndex := 5, descriptorIndex := 6, attributes := #[] }] 1057 2 #[133] #[{ accessFlags := 132, nameIndex := 11, descriptorIndex := 12, attributes := #[] }])
  fields := #[{ name := "modCount", type := .int, accessFlags := 132, slot := 0, constantValue := 0 }]
  methods := #[k25m0]
  instanceTypes := #[.int]
  staticTypes := #[]
  resolved := Array.replicate 218 none
  statics := none }

def pool26 : Array CpInfo := pool [(1, .class_ 2), (0, u "java/util/RandomAccess"), (0, .class_ 4), (0, u "java/lang/Object")] 2

/-- java/util/RandomAccess -/
def k26 : Class := { plain "java/util/RandomAccess" (some 0) with
  accessFlags := 1537
  interfaces := #[]
  cf := some (fileOf pool26 1 #[] #[] 1537 3 #[] #[])
  fields := #[]
  methods := #[]
  instanceTypes := #[]
  staticTypes := #[]
  resolved := Array.replicate 7 none
  statics := none }

def pool27 : Array CpInfo := pool [(1, .class_ 2), (0, u "java/lang/Cloneable"), (0, .class_ 4), (0, u "java/lang/Object")] 2

/-- java/lang/Cloneable -/
def k27 : Class := { plain "java/lang/Cloneable" (some 0) with
  accessFlags := 1537
  interfaces := #[]
  cf := some (fileOf pool27 1 #[] #[] 1537 3 #[] #[])
  fields := #[]
  methods := #[]
  instanceTypes := #[]
  staticTypes := #[]
  resolved := Array.replicate 7 none
  statics := none }

def pool28 : Array CpInfo := pool [(1, .methodref 2 3), (0, .class_ 4), (0, .nameAndType 5 6), (0, u "java/util/AbstractList"), (0, u "<init>"), (0, u "()V"), (0, .class_ 8), (0, u "java/lang/Object"), (0, .fieldref 10 11), (0, .class_ 12), (0, .nameAndType 13 14), (0, u "java/util/ArrayList"), (0, u "elementData"), (0, u "[Ljava/lang/Object;"), (2, u "EMPTY_ELEMENTDATA"), (21, .fieldref 10 40), (0, .nameAndType 41 14), (0, u "DEFAULTCAPACITY_EMPTY_ELEMENTDATA"), (4, u "toArray"), (0, u "()[Ljava/lang/Object;"), (0, .fieldref 10 49), (0, .nameAndType 50 51), (0, u "size"), (0, u "I"), (6, .class_ 60), (1, u "java/util/Arrays"), (0, u "copyOf"), (1, .fieldref 10 64), (0, .nameAndType 65 51), (0, u "modCount"), (0, .methodref 58 67), (0, .nameAndType 61 68), (0, u "([Ljava/lang/Object;I)[Ljava/lang/Object;"), (0, .methodref 10 70), (0, .nameAndType 71 72), (0, u "grow"), (0, u "(I)[Ljava/lang/Object;"), (6, .methodref 80 81), (0, .class_ 82), (0, .nameAndType 83 84), (0, u "java/lang/Math"), (0, u "max"), (0, u "(II)I"), (11, u "(Ljava/lang/Object;)Z"), (32, .methodref 10 130), (0, .nameAndType 71 47), (0, .methodref 10 132), (0, .nameAndType 133 134), (0, u "add"), (0, u "(Ljava/lang/Object;[Ljava/lang/Object;I)V"), (13, .class_ 149), (0, u "java/util/List"), (23, u "()Z"), (88, .class_ 263), (0, u "java/util/ArrayList$ListItr"), (3, .class_ 268), (0, u "java/util/ArrayList$Itr"), (7, .class_ 277), (0, u "java/util/ArrayList$SubList"), (12, .class_ 291), (0, u "java/util/ArrayList$ArrayListSpliterator"), (37, .class_ 330), (0, u "java/util/RandomAccess"), (0, .class_ 332), (0, u "java/lang/Cloneable"), (0, .class_ 334), (0, u "java/io/Serializable"), (0, u "serialVersionUID"), (0, u "J"), (3, u "DEFAULT_CAPACITY"), (22, u "isEmpty"), (136, .class_ 501), (0, u "java/util/ArrayList$SubList$2"), (0, .class_ 503), (0, u "java/util/ArrayList$SubList$1")] 5

def k28c0 : Code := { maxStack := 2, maxLocals := 1, code := jdk_38_method_2_code, exceptionTable := #[], attributes := #[] }
def k28m0 : Method := { name := "<init>", desc := "()V", sig := { parameters := [], returnType := none }, accessFlags := 1, code := some k28c0 }
def k28c1 : Code := { maxStack := 4, maxLocals := 4, code := jdk_38_method_6_code, exceptionTable := #[], attributes := #[] }
def k28m1 : Method := { name := "grow", desc := "(I)[Ljava/lang/Object;", sig := { parameters := [.int], returnType := some (.array (.object "java/lang/Object")) }, accessFlags := 2, code := some k28c1 }
def k28c2 : Code := { maxStack := 3, maxLocals := 1, code := jdk_38_method_7_code, exceptionTable := #[], attributes := #[] }
def k28m2 : Method := { name := "grow", desc := "()[Ljava/lang/Object;", sig := { parameters := [], returnType := some (.array (.object "java/lang/Object")) }, accessFlags := 2, code := some k28c2 }
def k28c3 : Code := { maxStack := 1, maxLocals := 1, code := jdk_38_method_9_code, exceptionTable := #[], attributes := #[] }
def k28m3 : Method := { name := "isEmpty", desc := "()Z", sig := { parameters := [], returnType := some .boolean }, accessFlags := 1, code := some k28c3 }
def k28c4 : Code := { maxStack := 2, maxLocals := 1, code := jdk_38_method_16_code, exceptionTable := #[], attributes := #[] }
def k28m4 : Method := { name := "toArray", desc := "()[Ljava/lang/Object;", sig := { parameters := [], returnType := some (.array (.object "java/lang/Object")) }, accessFlags := 1, code := some k28c4 }
def k28c5 : Code := { maxStack := 3, maxLocals := 4, code := jdk_38_method_24_code, exceptionTable := #[], attributes := #[] }
def k28m5 : Method := { name := "add", desc := "(Ljava/lang/Object;[Ljava/lang/Object;I)V", sig := { parameters := [(.object "java/lang/Object"), (.array (.object "java/lang/Object")), .int], returnType := none }, accessFlags := 2, code := some k28c5 }
def k28c6 : Code := { maxStack := 4, maxLocals := 2, code := jdk_38_method_25_code, exceptionTable := #[], attributes := #[] }
def k28m6 : Method := { name := "add", desc := "(Ljava/lang/Object;)Z", sig := { parameters := [(.object "java/lang/Object")], returnType := some .boolean }, accessFlags := 1, code := some k28c6 }
/-- java/util/ArrayList -/
def k28 : Class := { plain "java/util/ArrayList" (some 25) with
  accessFlags := 33
  interfaces := #[24, 26, 27, 7]
  cf := some (fileOf pool28 10 #[.nestMembers #[290, 276, 500, 502, 262, 267]] #[{ accessFlags := 1, nameIndex := 5, descriptorIndex := 6, attributes := #[] }, { accessFlags := 2, nameIndex := 71, descriptorIndex := 72, attributes := #[] }, { accessFlags := 2, nameIndex := 71, descriptorIndex := 47, attributes := #[] }, { accessFlags := 1, nameIndex := 363, descriptorIndex := 173, attributes := #[] }, { accessFlags := 1, nameIndex := 46, descriptorIndex := 47, attributes := #[] }, { accessFlags := 2, nameIndex := 133, descriptorIndex := 134, attributes := #[] }, { accessFlags := 1, nameIndex := 133, descriptorIndex := 96, attributes := #[] }] 33 2 #[148, 329, 331, 333] #[{ accessFlags := 26, nameIndex := 335, descriptorIndex := 336, attributes := #[] }, { accessFlags := 26, nameIndex := 340, descriptorIndex := 51, attributes := #[] }, { accessFlags := 26, nameIndex := 17, descriptorIndex := 14, attributes := #[] }, { accessFlags := 26, nameIndex := 41, descriptorIndex := 14, attributes := #[] }, { accessFlags := 128, nameIndex := 13, descriptorIndex := 14, attributes := #[] }, { accessFlags := 2, nameIndex := 50, descriptorIndex := 51, attributes := #[] }])
  fields := #[{ name := "serialVersionUID", type := .long, accessFlags := 26, slot := 0, constantValue := 0 }, { name := "DEFAULT_CAPACITY", type := .int, accessFlags := 26, slot := 1, constantValue := 0 }, { name := "EMPTY_ELEMENTDATA", type := (.array (.object "java/lang/Object")), accessFlags := 26, slot := 2, constantValue := 0 }, { name := "DEFAULTCAPACITY_EMPTY_ELEMENTDATA", type := (.array (.object "java/lang/Object")), accessFlags := 26, slot := 3, constantValue := 0 }, { name := "elementData", type := (.array (.object "java/lang/Object")), accessFlags := 128, slot := 1, constantValue := 0 }, { name := "size", type := .int, accessFlags := 2, slot := 2, constantValue := 0 }]
  methods := #[k28m0, k28m1, k28m2, k28m3, k28m4, k28m5, k28m6]
  instanceTypes := #[.int, (.array (.object "java/lang/Object")), .int]
  staticTypes := #[.long, .int, (.array (.object "java/lang/Object")), (.array (.object "java/lang/Object"))]
  resolved := Array.replicate 509 none
  statics := some 1 }

def pool29 : Array CpInfo := pool [(1, .methodref 2 3), (0, .class_ 4), (0, .nameAndType 5 6), (0, u "java/lang/Record"), (0, u "<init>"), (0, u "()V"), (0, .interfaceMethodref 8 9), (0, .class_ 10), (0, .nameAndType 11 12), (0, u "java/util/List"), (0, u "copyOf"), (0, u "(Ljava/util/Collection;)Ljava/util/List;"), (0, .fieldref 14 15), (0, .class_ 16), (0, .nameAndType 17 18), (0, u "com/example/vestline/vestline/service/ServiceCount"), (0, u "periods"), (0, u "Ljava/util/List;"), (0, .fieldref 14 20), (0, .nameAndType 21 22), (0, u "years"), (0, u "I"), (0, .fieldref 14 24), (0, .nameAndType 25 18), (0, u "setAsides"), (0, .interfaceMethodref 8 27), (0, .nameAndType 28 29), (0, u "isEmpty"), (0, u "()Z"), (0, .interfaceMethodref 8 31), (0, .nameAndType 32 33), (0, u "size"), (0, u "()I"), (0, .interfaceMethodref 8 35), (0, .nameAndType 36 37), (0, u "get"), (0, u "(I)Ljava/lang/Object;"), (0, .class_ 39), (0, u "com/example/vestline/vestline/service/SetAside"), (0, .methodref 38 41), (0, .nameAndType 42 43), (0, u "before"), (0, u "()Ljava/time/LocalDate;"), (15, u "(Ljava/util/List;ILjava/util/List;)V"), (4, u "setAsideBefore")] 30

def k29c0 : Code := { maxStack := 2, maxLocals := 4, code := prog_76_method_1_code, exceptionTable := #[], attributes := #[] }
def k29m0 : Method := { name := "<init>", desc := "(Ljava/util/List;ILjava/util/List;)V", sig := { parameters := [(.object "java/util/List"), .int, (.object "java/util/List")], returnType := none }, accessFlags := 1, code := some k29c0 }
def k29c1 : Code := { maxStack := 3, maxLocals := 1, code := prog_76_method_2_code, exceptionTable := #[], attributes := #[] }
def k29m1 : Method := { name := "setAsideBefore", desc := "()Ljava/time/LocalDate;", sig := { parameters := [], returnType := some (.object "java/time/LocalDate") }, accessFlags := 1, code := some k29c1 }
/-- com/example/vestline/vestline/service/ServiceCount -/
def k29 : Class := { plain "com/example/vestline/vestline/service/ServiceCount" (some 14) with
  accessFlags := 49
  interfaces := #[]
  cf := some (fileOf pool29 14 #[] #[{ accessFlags := 1, nameIndex := 5, descriptorIndex := 59, attributes := #[] }, { accessFlags := 1, nameIndex := 64, descriptorIndex := 43, attributes := #[] }] 49 2 #[] #[{ accessFlags := 18, nameIndex := 17, descriptorIndex := 18, attributes := #[] }, { accessFlags := 18, nameIndex := 21, descriptorIndex := 22, attributes := #[] }, { accessFlags := 18, nameIndex := 25, descriptorIndex := 18, attributes := #[] }])
  fields := #[{ name := "periods", type := (.object "java/util/List"), accessFlags := 18, slot := 0, constantValue := 0 }, { name := "years", type := .int, accessFlags := 18, slot := 1, constantValue := 0 }, { name := "setAsides", type := (.object "java/util/List"), accessFlags := 18, slot := 2, constantValue := 0 }]
  methods := #[k29m0, k29m1]
  instanceTypes := #[(.object "java/util/List"), .int, (.object "java/util/List")]
  staticTypes := #[]
  resolved := Array.replicate 95 none
  statics := none }

def pool30 : Array CpInfo := pool [(2, .class_ 4), (1, u "java/lang/Object"), (0, u "<init>"), (0, u "()V"), (3, .class_ 11), (0, u "java/util/ImmutableCollections$List12"), (0, .class_ 13), (0, u "java/util/ImmutableCollections$ListN"), (3, u "Z"), (0, .class_ 19), (0, u "java/util/List"), (0, .interfaceMethodref 21 22), (0, .class_ 23), (0, .nameAndType 24 25), (0, u "java/util/Collection"), (0, u "isEmpty"), (0, u "()Z"), (0, .interfaceMethodref 18 27), (0, .nameAndType 28 29), (0, u "of"), (0, u "()Ljava/util/List;"), (0, .interfaceMethodref 21 31), (0, .nameAndType 32 33), (0, u "toArray"), (0, u "()[Ljava/lang/Object;"), (0, .interfaceMethodref 18 35), (0, .nameAndType 28 36), (0, u "([Ljava/lang/Object;)Ljava/util/List;"), (10, .class_ 49), (1, u "java/util/ImmutableCollections"), (0, u "$assertionsDisabled"), (5, u "[Ljava/lang/Object;"), (5, u "EMPTY_LIST"), (0, u "Ljava/util/ImmutableCollections$ListN;"), (8, u "EMPTY_LIST_NULLS"), (22, u "SALT32L"), (0, u "J"), (2, u "REVERSE"), (6, u "archivedObjects"), (2, u "EMPTY"), (0, u "Ljava/lang/Object;"), (0, .class_ 112), (0, u "java/util/ImmutableCollections$SetN"), (5, u "EMPTY_SET"), (0, u "Ljava/util/ImmutableCollections$SetN;"), (0, .class_ 121), (0, u "java/util/ImmutableCollections$MapN"), (3, u "EMPTY_MAP"), (0, u "Ljava/util/ImmutableCollections$MapN;"), (4, u "EXPAND_FACTOR"), (0, u "I"), (9, u "listCopy"), (0, u "(Ljava/util/Collection;)Ljava/util/List;"), (25, .class_ 170), (0, u "java/util/ImmutableCollections$MapN$MapNIterator"), (0, .class_ 172), (0, u "java/util/ImmutableCollections$MapN$1"), (0, .class_ 174), (0, u "java/util/ImmutableCollections$Map1"), (0, .class_ 176), (0, u "java/util/ImmutableCollections$AbstractImmutableMap"), (0, .class_ 178), (0, u "java/util/ImmutableCollections$SetN$SetNIterator"), (0, .class_ 180), (0, u "java/util/ImmutableCollections$Set12"), (0, .class_ 182), (0, u "java/util/ImmutableCollections$Set12$1"), (0, .class_ 184), (0, u "java/util/ImmutableCollections$AbstractImmutableSet"), (0, .class_ 186), (0, u "java/util/ImmutableCollections$SubList"), (0, .class_ 188), (0, u "java/util/ImmutableCollections$ListItr"), (0, .class_ 190), (0, u "java/util/ImmutableCollections$AbstractImmutableList"), (0, .class_ 192), (0, u "java/util/ImmutableCollections$AbstractImmutableCollection"), (0, .class_ 194), (0, u "java/util/ImmutableCollections$Access"), (0, .class_ 196), (0, u "java/util/ImmutableCollections$Access$1")] 16

def k30m0 : Method := { name := "<init>", desc := "()V", sig := { parameters := [], returnType := none }, accessFlags := 2, code := none }
def k30c1 : Code := { maxStack := 1, maxLocals := 2, code := jdk_56_method_3_code, exceptionTable := #[], attributes := #[] }
def k30m1 : Method := { name := "listCopy", desc := "(Ljava/util/Collection;)Ljava/util/List;", sig := { parameters := [(.object "java/util/Collection")], returnType := some (.object "java/util/List") }, accessFlags := 8, code := some k30c1 }
/-- java/util/ImmutableCollections -/
def k30 : Class := { plain "java/util/ImmutableCollections" (some 0) with
  accessFlags := 32
  interfaces := #[]
  cf := some (fileOf pool30 47 #[.nestMembers #[120, 169, 171, 173, 175, 111, 177, 179, 181, 183, 12, 10, 185, 187, 189, 191, 193, 195]] #[{ accessFlags := 2, nameIndex := 5, descriptorIndex := 6, attributes := #[] }, { accessFlags := 8, nameIndex := 142, descriptorIndex := 143, attributes := #[] }] 32 2 #[] #[{ accessFlags := 26, nameIndex := 95, descriptorIndex := 96, attributes := #[] }, { accessFlags := 26, nameIndex := 99, descriptorIndex := 17, attributes := #[] }, { accessFlags := 10, nameIndex := 106, descriptorIndex := 56, attributes := #[] }, { accessFlags := 26, nameIndex := 109, descriptorIndex := 110, attributes := #[] }, { accessFlags := 24, nameIndex := 62, descriptorIndex := 63, attributes := #[] }, { accessFlags := 24, nameIndex := 72, descriptorIndex := 63, attributes := #[] }, { accessFlags := 24, nameIndex := 118, descriptorIndex := 119, attributes := #[] }, { accessFlags := 24, nameIndex := 125, descriptorIndex := 126, attributes := #[] }, { accessFlags := 24, nameIndex := 131, descriptorIndex := 132, attributes := #[] }, { accessFlags := 4120, nameIndex := 50, descriptorIndex := 17, attributes := #[] }])
  fields := #[{ name := "SALT32L", type := .long, accessFlags := 26, slot := 0, constantValue := 0 }, { name := "REVERSE", type := .boolean, accessFlags := 26, slot := 1, constantValue := 0 }, { name := "archivedObjects", type := (.array (.object "java/lang/Object")), accessFlags := 10, slot := 2, constantValue := 0 }, { name := "EMPTY", type := (.object "java/lang/Object"), accessFlags := 26, slot := 3, constantValue := 0 }, { name := "EMPTY_LIST", type := (.object "java/util/ImmutableCollections$ListN"), accessFlags := 24, slot := 4, constantValue := 0 }, { name := "EMPTY_LIST_NULLS", type := (.object "java/util/ImmutableCollections$ListN"), accessFlags := 24, slot := 5, constantValue := 0 }, { name := "EMPTY_SET", type := (.object "java/util/ImmutableCollections$SetN"), accessFlags := 24, slot := 6, constantValue := 0 }, { name := "EMPTY_MAP", type := (.object "java/util/ImmutableCollections$MapN"), accessFlags := 24, slot := 7, constantValue := 0 }, { name := "EXPAND_FACTOR", type := .int, accessFlags := 24, slot := 8, constantValue := 0 }, { name := "$assertionsDisabled", type := .boolean, accessFlags := 4120, slot := 9, constantValue := 0 }]
  methods := #[k30m0, k30m1]
  instanceTypes := #[]
  staticTypes := #[.long, .boolean, (.array (.object "java/lang/Object")), (.object "java/lang/Object"), (.object "java/util/ImmutableCollections$ListN"), (.object "java/util/ImmutableCollections$ListN"), (.object "java/util/ImmutableCollections$SetN"), (.object "java/util/ImmutableCollections$MapN"), .int, .boolean]
  resolved := Array.replicate 213 none
  statics := some 2 }

def pool31 : Array CpInfo := pool [(1, .methodref 2 3), (0, .class_ 4), (0, .nameAndType 5 6), (0, u "java/util/AbstractCollection"), (0, u "<init>"), (0, u "()V"), (1, .class_ 10), (1, u "java/util/ImmutableCollections"), (2, .class_ 14), (0, u "java/util/ImmutableCollections$AbstractImmutableCollection")] 41

def k31c0 : Code := { maxStack := 1, maxLocals := 1, code := jdk_47_method_1_code, exceptionTable := #[], attributes := #[] }
def k31m0 : Method := { name := "<init>", desc := "()V", sig := { parameters := [], returnType := none }, accessFlags := 0, code := some k31c0 }
/-- java/util/ImmutableCollections$AbstractImmutableCollection -/
def k31 : Class := { plain "java/util/ImmutableCollections$AbstractImmutableCollection" (some 22) with
  accessFlags := 1056
  interfaces := #[]
  cf := some (fileOf pool31 13 #[.nestHost 8] #[{ accessFlags := 0, nameIndex := 5, descriptorIndex := 6, attributes := #[] }] 1056 2 #[] #[])
  fields := #[]
  methods := #[k31m0]
  instanceTypes := #[]
  staticTypes := #[]
  resolved := Array.replicate 56 none
  statics := none }

def pool32 : Array CpInfo := pool [(1, .methodref 2 3), (0, .class_ 4), (0, .nameAndType 5 6), (0, u "java/util/ImmutableCollections$AbstractImmutableCollection"), (0, u "<init>"), (0, u "()V"), (1, .class_ 10), (1, u "java/util/ImmutableCollections"), (3, .class_ 16), (1, u "java/util/ImmutableCollections$AbstractImmutableList"), (60, .class_ 78), (0, u "java/util/List"), (45, .class_ 125), (0, u "java/util/RandomAccess")] 70

def k32c0 : Code := { maxStack := 1, maxLocals := 1, code := jdk_46_method_1_code, exceptionTable := #[], attributes := #[] }
def k32m0 : Method := { name := "<init>", desc := "()V", sig := { parameters := [], returnType := none }, accessFlags := 0, code := some k32c0 }
/-- java/util/ImmutableCollections$AbstractImmutableList -/
def k32 : Class := { plain "java/util/ImmutableCollections$AbstractImmutableList" (some 31) with
  accessFlags := 1056
  interfaces := #[24, 26]
  cf := some (fileOf pool32 14 #[.nestHost 8] #[{ accessFlags := 0, nameIndex := 5, descriptorIndex := 6, attributes := #[] }] 1056 2 #[77, 124] #[])
  fields := #[]
  methods := #[k32m0]
  instanceTypes := #[]
  staticTypes := #[]
  resolved := Array.replicate 196 none
  statics := none }

def pool33 : Array CpInfo := pool [(1, .methodref 2 3), (0, .class_ 4), (0, .nameAndType 5 6), (0, u "java/util/ImmutableCollections$AbstractImmutableList"), (0, u "<init>"), (0, u "()V"), (0, .methodref 8 9), (0, .class_ 10), (0, .nameAndType 11 12), (0, u "java/util/Objects"), (0, u "requireNonNull"), (0, u "(Ljava/lang/Object;)Ljava/lang/Object;"), (0, .fieldref 14 15), (0, .class_ 16), (0, .nameAndType 17 18), (0, u "java/util/ImmutableCollections$List12"), (0, u "e0"), (0, u "Ljava/lang/Object;"), (0, .fieldref 20 21), (0, .class_ 22), (0, .nameAndType 23 18), (0, u "java/util/ImmutableCollections"), (0, u "EMPTY"), (0, .fieldref 14 25), (0, .nameAndType 26 18), (0, u "e1"), (24, u "size"), (0, u "()I"), (17, .class_ 71), (0, u "java/io/Serializable"), (4, u "(Ljava/lang/Object;)V"), (8, u "(Ljava/lang/Object;Ljava/lang/Object;)V"), (2, u "isEmpty"), (0, u "()Z"), (0, u "get"), (0, u "(I)Ljava/lang/Object;")] 33

def k33c0 : Code := { maxStack := 2, maxLocals := 2, code := jdk_44_method_1_code, exceptionTable := #[], attributes := #[] }
def k33m0 : Method := { name := "<init>", desc := "(Ljava/lang/Object;)V", sig := { parameters := [(.object "java/lang/Object")], returnType := none }, accessFlags := 0, code := some k33c0 }
def k33c1 : Code := { maxStack := 2, maxLocals := 3, code := jdk_44_method_2_code, exceptionTable := #[], attributes := #[] }
def k33m1 : Method := { name := "<init>", desc := "(Ljava/lang/Object;Ljava/lang/Object;)V", sig := { parameters := [(.object "java/lang/Object"), (.object "java/lang/Object")], returnType := none }, accessFlags := 0, code := some k33c1 }
def k33c2 : Code := { maxStack := 2, maxLocals := 1, code := jdk_44_method_3_code, exceptionTable := #[], attributes := #[] }
def k33m2 : Method := { name := "size", desc := "()I", sig := { parameters := [], returnType := some .int }, accessFlags := 1, code := some k33c2 }
def k33c3 : Code := { maxStack := 1, maxLocals := 1, code := jdk_44_method_4_code, exceptionTable := #[], attributes := #[] }
def k33m3 : Method := { name := "isEmpty", desc := "()Z", sig := { parameters := [], returnType := some .boolean }, accessFlags := 1, code := some k33c3 }
def k33c4 : Code := { maxStack := 2, maxLocals := 2, code := jdk_44_method_5_code, exceptionTable := #[], attributes := #[] }
def k33m4 : Method := { name := "get", desc := "(I)Ljava/lang/Object;", sig := { parameters := [.int], returnType := some (.object "java/lang/Object") }, accessFlags := 1, code := some k33c4 }
/-- java/util/ImmutableCollections$List12 -/
def k33 : Class := { plain "java/util/ImmutableCollections$List12" (some 32) with
  accessFlags := 48
  interfaces := #[7]
  cf := some (fileOf pool33 14 #[.nestHost 20] #[{ accessFlags := 0, nameIndex := 5, descriptorIndex := 76, attributes := #[] }, { accessFlags := 0, nameIndex := 5, descriptorIndex := 85, attributes := #[] }, { accessFlags := 1, nameIndex := 51, descriptorIndex := 52, attributes := #[] }, { accessFlags := 1, nameIndex := 88, descriptorIndex := 89, attributes := #[] }, { accessFlags := 1, nameIndex := 90, descriptorIndex := 91, attributes := #[] }] 48 2 #[70] #[{ accessFlags := 18, nameIndex := 17, descriptorIndex := 18, attributes := #[] }, { accessFlags := 18, nameIndex := 26, descriptorIndex := 18, attributes := #[] }])
  fields := #[{ name := "e0", type := (.object "java/lang/Object"), accessFlags := 18, slot := 0, constantValue := 0 }, { name := "e1", type := (.object "java/lang/Object"), accessFlags := 18, slot := 1, constantValue := 0 }]
  methods := #[k33m0, k33m1, k33m2, k33m3, k33m4]
  instanceTypes := #[(.object "java/lang/Object"), (.object "java/lang/Object")]
  staticTypes := #[]
  resolved := Array.replicate 125 none
  statics := none }

def pool34 : Array CpInfo := pool [(2, .class_ 4), (1, u "java/util/ImmutableCollections$AbstractImmutableList"), (2, .fieldref 8 9), (0, .class_ 10), (0, .nameAndType 11 12), (0, u "java/util/ImmutableCollections$ListN"), (0, u "elements"), (0, u "[Ljava/lang/Object;"), (2, u "allowNulls"), (0, u "Z"), (42, .class_ 60), (0, u "java/io/Serializable"), (13, u "isEmpty"), (0, u "()Z"), (38, .class_ 115), (0, u "java/util/ImmutableCollections")] 3

def k34c0 : Code := { maxStack := 1, maxLocals := 1, code := jdk_45_method_2_code, exceptionTable := #[], attributes := #[] }
def k34m0 : Method := { name := "isEmpty", desc := "()Z", sig := { parameters := [], returnType := some .boolean }, accessFlags := 1, code := some k34c0 }
/-- java/util/ImmutableCollections$ListN -/
def k34 : Class := { plain "java/util/ImmutableCollections$ListN" (some 32) with
  accessFlags := 48
  interfaces := #[7]
  cf := some (fileOf pool34 8 #[.nestHost 114] #[{ accessFlags := 1, nameIndex := 74, descriptorIndex := 75, attributes := #[] }] 48 2 #[59] #[{ accessFlags := 18, nameIndex := 11, descriptorIndex := 12, attributes := #[] }, { accessFlags := 18, nameIndex := 15, descriptorIndex := 16, attributes := #[] }])
  fields := #[{ name := "elements", type := (.array (.object "java/lang/Object")), accessFlags := 18, slot := 0, constantValue := 0 }, { name := "allowNulls", type := .boolean, accessFlags := 18, slot := 1, constantValue := 0 }]
  methods := #[k34m0]
  instanceTypes := #[(.array (.object "java/lang/Object")), .boolean]
  staticTypes := #[]
  resolved := Array.replicate 119 none
  statics := none }

def pool35 : Array CpInfo := pool [(1, .class_ 2), (0, u "java/lang/Math"), (1, .class_ 6), (1, u "java/lang/Object"), (0, u "<init>"), (0, u "()V"), (89, .class_ 100), (1, u "java/lang/Math$RandomNumberGeneratorHolder"), (71, u "negativeZeroFloatBits"), (0, u "J"), (2, u "negativeZeroDoubleBits"), (21, u "max"), (2, u "min"), (43, u "$assertionsDisabled"), (0, u "Z"), (88, u "(II)I"), (2, u "twoToTheDoubleScaleDown"), (0, u "D"), (4, u "twoToTheDoubleScaleUp"), (9, u "E"), (3, u "PI"), (2, u "TAU"), (2, u "DEGREES_TO_RADIANS"), (0, u "RADIANS_TO_DEGREES")] 94

def k35m0 : Method := { name := "<init>", desc := "()V", sig := { parameters := [], returnType := none }, accessFlags := 2, code := none }
def k35c1 : Code := { maxStack := 2, maxLocals := 2, code := jdk_29_method_65_code, exceptionTable := #[], attributes := #[] }
def k35m1 : Method := { name := "max", desc := "(II)I", sig := { parameters := [.int, .int], returnType := some .int }, accessFlags := 9, code := some k35c1 }
def k35c2 : Code := { maxStack := 2, maxLocals := 2, code := jdk_29_method_69_code, exceptionTable := #[], attributes := #[] }
def k35m2 : Method := { name := "min", desc := "(II)I", sig := { parameters := [.int, .int], returnType := some .int }, accessFlags := 9, code := some k35c2 }
/-- java/lang/Math -/
def k35 : Class := { plain "java/lang/Math" (some 0) with
  accessFlags := 49
  interfaces := #[]
  cf := some (fileOf pool35 1 #[.nestMembers #[98]] #[{ accessFlags := 2, nameIndex := 7, descriptorIndex := 8, attributes := #[] }, { accessFlags := 9, nameIndex := 198, descriptorIndex := 335, attributes := #[] }, { accessFlags := 9, nameIndex := 201, descriptorIndex := 335, attributes := #[] }] 49 4 #[] #[{ accessFlags := 25, nameIndex := 354, descriptorIndex := 339, attributes := #[] }, { accessFlags := 25, nameIndex := 358, descriptorIndex := 339, attributes := #[] }, { accessFlags := 25, nameIndex := 361, descriptorIndex := 339, attributes := #[] }, { accessFlags := 26, nameIndex := 364, descriptorIndex := 339, attributes := #[] }, { accessFlags := 26, nameIndex := 365, descriptorIndex := 339, attributes := #[] }, { accessFlags := 26, nameIndex := 172, descriptorIndex := 173, attributes := #[] }, { accessFlags := 26, nameIndex := 176, descriptorIndex := 173, attributes := #[] }, { accessFlags := 8, nameIndex := 344, descriptorIndex := 339, attributes := #[] }, { accessFlags := 8, nameIndex := 338, descriptorIndex := 339, attributes := #[] }, { accessFlags := 4120, nameIndex := 245, descriptorIndex := 246, attributes := #[] }])
  fields := #[{ name := "E", type := .double, accessFlags := 25, slot := 0, constantValue := 0 }, { name := "PI", type := .double, accessFlags := 25, slot := 1, constantValue := 0 }, { name := "TAU", type := .double, accessFlags := 25, slot := 2, constantValue := 0 }, { name := "DEGREES_TO_RADIANS", type := .double, accessFlags := 26, slot := 3, constantValue := 0 }, { name := "RADIANS_TO_DEGREES", type := .double, accessFlags := 26, slot := 4, constantValue := 0 }, { name := "negativeZeroFloatBits", type := .long, accessFlags := 26, slot := 5, constantValue := 0 }, { name := "negativeZeroDoubleBits", type := .long, accessFlags := 26, slot := 6, constantValue := 0 }, { name := "twoToTheDoubleScaleUp", type := .double, accessFlags := 8, slot := 7, constantValue := 0 }, { name := "twoToTheDoubleScaleDown", type := .double, accessFlags := 8, slot := 8, constantValue := 0 }, { name := "$assertionsDisabled", type := .boolean, accessFlags := 4120, slot := 9, constantValue := 0 }]
  methods := #[k35m0, k35m1, k35m2]
  instanceTypes := #[]
  staticTypes := #[.double, .double, .double, .double, .double, .long, .long, .double, .double, .boolean]
  resolved := Array.replicate 460 none
  statics := none }

def pool36 : Array CpInfo := pool [(2, .class_ 4), (1, u "java/lang/Object"), (0, u "<init>"), (0, u "()V"), (7, .class_ 16), (1, u "java/util/Arrays"), (57, .class_ 76), (1, u "java/util/Arrays$NaturalOrder"), (9, .methodref 2 87), (0, .nameAndType 88 89), (0, u "getClass"), (0, u "()Ljava/lang/Class;"), (20, .class_ 111), (0, u "[Ljava/lang/Object;"), (1, .class_ 115), (1, u "java/util/Arrays$LegacyMergeSort"), (1, u "Z"), (32, .methodref 151 152), (0, .class_ 153), (0, .nameAndType 154 155), (0, u "java/lang/System"), (0, u "arraycopy"), (0, u "(Ljava/lang/Object;ILjava/lang/Object;II)V"), (144, .methodref 14 301), (0, .nameAndType 302 303), (0, u "copyOf"), (0, u "([Ljava/lang/Object;ILjava/lang/Class;)[Ljava/lang/Object;"), (0, .methodref 305 306), (0, .class_ 307), (0, .nameAndType 308 309), (0, u "java/lang/Math"), (0, u "min"), (0, u "(II)I"), (65, .class_ 376), (0, u "java/util/Arrays$ArrayList"), (68, u "$assertionsDisabled"), (269, u "MIN_ARRAY_SORT_GRAN"), (0, u "I"), (2, u "INSERTIONSORT_THRESHOLD"), (140, u "([Ljava/lang/Object;I)[Ljava/lang/Object;"), (114, .class_ 976), (0, u "java/util/Arrays$ArrayItr")] 52

def k36m0 : Method := { name := "<init>", desc := "()V", sig := { parameters := [], returnType := none }, accessFlags := 2, code := none }
def k36c1 : Code := { maxStack := 3, maxLocals := 2, code := jdk_65_method_119_code, exceptionTable := #[], attributes := #[] }
def k36m1 : Method := { name := "copyOf", desc := "([Ljava/lang/Object;I)[Ljava/lang/Object;", sig := { parameters := [(.array (.object "java/lang/Object")), .int], returnType := some (.array (.object "java/lang/Object")) }, accessFlags := 9, code := some k36c1 }
def k36c2 : Code := { maxStack := 6, maxLocals := 4, code := jdk_65_method_120_code, exceptionTable := #[], attributes := #[] }
def k36m2 : Method := { name := "copyOf", desc := "([Ljava/lang/Object;ILjava/lang/Class;)[Ljava/lang/Object;", sig := { parameters := [(.array (.object "java/lang/Object")), .int, (.object "java/lang/Class")], returnType := some (.array (.object "java/lang/Object")) }, accessFlags := 9, code := some k36c2 }
/-- java/util/Arrays -/
def k36 : Class := { plain "java/util/Arrays" (some 0) with
  accessFlags := 49
  interfaces := #[]
  cf := some (fileOf pool36 14 #[.nestMembers #[975, 375, 113, 74]] #[{ accessFlags := 2, nameIndex := 5, descriptorIndex := 6, attributes := #[] }, { accessFlags := 9, nameIndex := 302, descriptorIndex := 860, attributes := #[] }, { accessFlags := 9, nameIndex := 302, descriptorIndex := 303, attributes := #[] }] 49 2 #[] #[{ accessFlags := 26, nameIndex := 715, descriptorIndex := 716, attributes := #[] }, { accessFlags := 26, nameIndex := 719, descriptorIndex := 716, attributes := #[] }, { accessFlags := 4120, nameIndex := 445, descriptorIndex := 117, attributes := #[] }])
  fields := #[{ name := "MIN_ARRAY_SORT_GRAN", type := .int, accessFlags := 26, slot := 0, constantValue := 0 }, { name := "INSERTIONSORT_THRESHOLD", type := .int, accessFlags := 26, slot := 1, constantValue := 0 }, { name := "$assertionsDisabled", type := .boolean, accessFlags := 4120, slot := 2, constantValue := 0 }]
  methods := #[k36m0, k36m1, k36m2]
  instanceTypes := #[]
  staticTypes := #[.int, .int, .boolean]
  resolved := Array.replicate 1029 none
  statics := none }

def pool37 : Array CpInfo := pool [(2, .class_ 4), (1, u "java/lang/Object"), (0, u "<init>"), (0, u "()V"), (1, .class_ 10), (1, u "java/lang/System"), (0, u "allowSecurityManager"), (0, u "I"), (16, u "cons"), (0, u "Ljava/io/Console;"), (77, .class_ 110), (1, u "java/lang/System$CallersHolder"), (43, u "initialErrStream"), (0, u "Ljava/io/PrintStream;"), (19, u "security"), (0, u "Ljava/lang/SecurityManager;"), (31, .class_ 209), (0, u "java/lang/System$1"), (7, u "props"), (0, u "Ljava/util/Properties;"), (2, u "lineSeparator"), (0, u "Ljava/lang/String;"), (96, .class_ 321), (1, u "java/lang/System$LoggerFinder"), (5, .class_ 328), (0, u "java/lang/System$Logger"), (67, u "err"), (2, u "out"), (91, u "notSupportedJnuEncoding"), (15, u "in"), (17, u "initialIn"), (0, u "Ljava/io/InputStream;"), (35, u "bootLayer"), (0, u "Ljava/lang/ModuleLayer;"), (99, .class_ 664), (0, u "java/lang/System$2"), (9, u "NEVER"), (2, u "MAYBE"), (49, u "arraycopy"), (0, u "(Ljava/lang/Object;ILjava/lang/Object;II)V"), (72, .class_ 802), (0, u "java/lang/System$Logger$Level")] 31

def k37m0 : Method := { name := "<init>", desc := "()V", sig := { parameters := [], returnType := none }, accessFlags := 2, code := none }
def k37m1 : Method := { name := "arraycopy", desc := "(Ljava/lang/Object;ILjava/lang/Object;II)V", sig := { parameters := [(.object "java/lang/Object"), .int, (.object "java/lang/Object"), .int, .int], returnType := none }, accessFlags := 265, code := none }
/-- java/lang/System -/
def k37 : Class := { plain "java/lang/System" (some 0) with
  accessFlags := 49
  interfaces := #[]
  cf := some (fileOf pool37 8 #[.nestMembers #[319, 327, 801, 108, 663, 208]] #[{ accessFlags := 2, nameIndex := 5, descriptorIndex := 6, attributes := #[] }, { accessFlags := 265, nameIndex := 727, descriptorIndex := 728, attributes := #[] }] 49 2 #[] #[{ accessFlags := 25, nameIndex := 507, descriptorIndex := 526, attributes := #[] }, { accessFlags := 25, nameIndex := 399, descriptorIndex := 155, attributes := #[] }, { accessFlags := 25, nameIndex := 396, descriptorIndex := 155, attributes := #[] }, { accessFlags := 10, nameIndex := 525, descriptorIndex := 526, attributes := #[] }, { accessFlags := 26, nameIndex := 674, descriptorIndex := 12, attributes := #[] }, { accessFlags := 26, nameIndex := 677, descriptorIndex := 12, attributes := #[] }, { accessFlags := 10, nameIndex := 11, descriptorIndex := 12, attributes := #[] }, { accessFlags := 74, nameIndex := 175, descriptorIndex := 176, attributes := #[] }, { accessFlags := 10, nameIndex := 491, descriptorIndex := 222, attributes := #[] }, { accessFlags := 74, nameIndex := 29, descriptorIndex := 30, attributes := #[] }, { accessFlags := 74, nameIndex := 154, descriptorIndex := 155, attributes := #[] }, { accessFlags := 10, nameIndex := 217, descriptorIndex := 218, attributes := #[] }, { accessFlags := 10, nameIndex := 221, descriptorIndex := 222, attributes := #[] }, { accessFlags := 8, nameIndex := 562, descriptorIndex := 563, attributes := #[] }])
  fields := #[{ name := "in", type := (.object "java/io/InputStream"), accessFlags := 25, slot := 0, constantValue := 0 }, { name := "out", type := (.object "java/io/PrintStream"), accessFlags := 25, slot := 1, constantValue := 0 }, { name := "err", type := (.object "java/io/PrintStream"), accessFlags := 25, slot := 2, constantValue := 0 }, { name := "initialIn", type := (.object "java/io/InputStream"), accessFlags := 10, slot := 3, constantValue := 0 }, { name := "NEVER", type := .int, accessFlags := 26, slot := 4, constantValue := 0 }, { name := "MAYBE", type := .int, accessFlags := 26, slot := 5, constantValue := 0 }, { name := "allowSecurityManager", type := .int, accessFlags := 10, slot := 6, constantValue := 0 }, { name := "security", type := (.object "java/lang/SecurityManager"), accessFlags := 74, slot := 7, constantValue := 0 }, { name := "notSupportedJnuEncoding", type := (.object "java/lang/String"), accessFlags := 10, slot := 8, constantValue := 0 }, { name := "cons", type := (.object "java/io/Console"), accessFlags := 74, slot := 9, constantValue := 0 }, { name := "initialErrStream", type := (.object "java/io/PrintStream"), accessFlags := 74, slot := 10, constantValue := 0 }, { name := "props", type := (.object "java/util/Properties"), accessFlags := 10, slot := 11, constantValue := 0 }, { name := "lineSeparator", type := (.object "java/lang/String"), accessFlags := 10, slot := 12, constantValue := 0 }, { name := "bootLayer", type := (.object "java/lang/ModuleLayer"), accessFlags := 8, slot := 13, constantValue := 0 }]
  methods := #[k37m0, k37m1]
  instanceTypes := #[]
  staticTypes := #[(.object "java/io/InputStream"), (.object "java/io/PrintStream"), (.object "java/io/PrintStream"), (.object "java/io/InputStream"), .int, .int, .int, (.object "java/lang/SecurityManager"), (.object "java/lang/String"), (.object "java/io/Console"), (.object "java/io/PrintStream"), (.object "java/util/Properties"), (.object "java/lang/String"), (.object "java/lang/ModuleLayer")]
  resolved := Array.replicate 834 none
  statics := none }

def pool38 : Array CpInfo := pool [(4, .class_ 6), (1, u "java/time/temporal/TemporalUnit"), (23, .class_ 31), (0, u "java/lang/Object")] 27

/-- java/time/temporal/TemporalUnit -/
def k38 : Class := { plain "java/time/temporal/TemporalUnit" (some 0) with
  accessFlags := 1537
  interfaces := #[]
  cf := some (fileOf pool38 4 #[] #[] 1537 30 #[] #[])
  fields := #[]
  methods := #[]
  instanceTypes := #[]
  staticTypes := #[]
  resolved := Array.replicate 59 none
  statics := none }

def pool39 : Array CpInfo := pool [(1, .class_ 2), (0, u "java/time/temporal/ChronoUnit"), (2, u "NANOS"), (0, u "Ljava/time/temporal/ChronoUnit;"), (2, u "MICROS"), (2, u "MILLIS"), (2, u "SECONDS"), (2, u "MINUTES"), (2, u "HOURS"), (2, u "HALF_DAYS"), (2, u "DAYS"), (2, u "WEEKS"), (2, u "MONTHS"), (2, u "YEARS"), (2, u "DECADES"), (2, u "CENTURIES"), (2, u "MILLENNIA"), (2, u "ERAS"), (2, u "FOREVER"), (2, u "$VALUES"), (0, u "[Ljava/time/temporal/ChronoUnit;"), (6, .class_ 64), (1, u "java/lang/Enum"), (8, u "name"), (0, u "Ljava/lang/String;"), (2, u "duration"), (0, u "Ljava/time/Duration;"), (117, .class_ 197), (0, u "java/time/temporal/TemporalUnit")] 39

/-- java/time/temporal/ChronoUnit -/
def k39 : Class := { plain "java/time/temporal/ChronoUnit" (some 10) with
  accessFlags := 16433
  interfaces := #[38]
  cf := some (fileOf pool39 1 #[] #[] 16433 62 #[196] #[{ accessFlags := 16409, nameIndex := 5, descriptorIndex := 6, attributes := #[] }, { accessFlags := 16409, nameIndex := 9, descriptorIndex := 6, attributes := #[] }, { accessFlags := 16409, nameIndex := 12, descriptorIndex := 6, attributes := #[] }, { accessFlags := 16409, nameIndex := 15, descriptorIndex := 6, attributes := #[] }, { accessFlags := 16409, nameIndex := 18, descriptorIndex := 6, attributes := #[] }, { accessFlags := 16409, nameIndex := 21, descriptorIndex := 6, attributes := #[] }, { accessFlags := 16409, nameIndex := 24, descriptorIndex := 6, attributes := #[] }, { accessFlags := 16409, nameIndex := 27, descriptorIndex := 6, attributes := #[] }, { accessFlags := 16409, nameIndex := 30, descriptorIndex := 6, attributes := #[] }, { accessFlags := 16409, nameIndex := 33, descriptorIndex := 6, attributes := #[] }, { accessFlags := 16409, nameIndex := 36, descriptorIndex := 6, attributes := #[] }, { accessFlags := 16409, nameIndex := 39, descriptorIndex := 6, attributes := #[] }, { accessFlags := 16409, nameIndex := 42, descriptorIndex := 6, attributes := #[] }, { accessFlags := 16409, nameIndex := 45, descriptorIndex := 6, attributes := #[] }, { accessFlags := 16409, nameIndex := 48, descriptorIndex := 6, attributes := #[] }, { accessFlags := 16409, nameIndex := 51, descriptorIndex := 6, attributes := #[] }, { accessFlags := 18, nameIndex := 73, descriptorIndex := 74, attributes := #[] }, { accessFlags := 18, nameIndex := 77, descriptorIndex := 78, attributes := #[] }, { accessFlags := 4122, nameIndex := 54, descriptorIndex := 55, attributes := #[] }])
  fields := #[{ name := "NANOS", type := (.object "java/time/temporal/ChronoUnit"), accessFlags := 16409, slot := 0, constantValue := 0 }, { name := "MICROS", type := (.object "java/time/temporal/ChronoUnit"), accessFlags := 16409, slot := 1, constantValue := 0 }, { name := "MILLIS", type := (.object "java/time/temporal/ChronoUnit"), accessFlags := 16409, slot := 2, constantValue := 0 }, { name := "SECONDS", type := (.object "java/time/temporal/ChronoUnit"), accessFlags := 16409, slot := 3, constantValue := 0 }, { name := "MINUTES", type := (.object "java/time/temporal/ChronoUnit"), accessFlags := 16409, slot := 4, constantValue := 0 }, { name := "HOURS", type := (.object "java/time/temporal/ChronoUnit"), accessFlags := 16409, slot := 5, constantValue := 0 }, { name := "HALF_DAYS", type := (.object "java/time/temporal/ChronoUnit"), accessFlags := 16409, slot := 6, constantValue := 0 }, { name := "DAYS", type := (.object "java/time/temporal/ChronoUnit"), accessFlags := 16409, slot := 7, constantValue := 0 }, { name := "WEEKS", type := (.object "java/time/temporal/ChronoUnit"), accessFlags := 16409, slot := 8, constantValue := 0 }, { name := "MONTHS", type := (.object "java/time/temporal/ChronoUnit"), accessFlags := 16409, slot := 9, constantValue := 0 }, { name := "YEARS", type := (.object "java/time/temporal/ChronoUnit"), accessFlags := 16409, slot := 10, constantValue := 0 }, { name := "DECADES", type := (.object "java/time/temporal/ChronoUnit"), accessFlags := 16409, slot := 11, constantValue := 0 }, { name := "CENTURIES", type := (.object "java/time/temporal/ChronoUnit"), accessFlags := 16409, slot := 12, constantValue := 0 }, { name := "MILLENNIA", type := (.object "java/time/temporal/ChronoUnit"), accessFlags := 16409, slot := 13, constantValue := 0 }, { name := "ERAS", type := (.object "java/time/temporal/ChronoUnit"), accessFlags := 16409, slot := 14, constantValue := 0 }, { name := "FOREVER", type := (.object "java/time/temporal/ChronoUnit"), accessFlags := 16409, slot := 15, constantValue := 0 }, { name := "name", type := (.object "java/lang/String"), accessFlags := 18, slot := 3, constantValue := 0 }, { name := "duration", type := (.object "java/time/Duration"), accessFlags := 18, slot := 4, constantValue := 0 }, { name := "$VALUES", type := (.array (.object "java/time/temporal/ChronoUnit")), accessFlags := 4122, slot := 16, constantValue := 0 }]
  methods := #[]
  instanceTypes := #[(.object "java/lang/String"), .int, .int, (.object "java/lang/String"), (.object "java/time/Duration")]
  staticTypes := #[(.object "java/time/temporal/ChronoUnit"), (.object "java/time/temporal/ChronoUnit"), (.object "java/time/temporal/ChronoUnit"), (.object "java/time/temporal/ChronoUnit"), (.object "java/time/temporal/ChronoUnit"), (.object "java/time/temporal/ChronoUnit"), (.object "java/time/temporal/ChronoUnit"), (.object "java/time/temporal/ChronoUnit"), (.object "java/time/temporal/ChronoUnit"), (.object "java/time/temporal/ChronoUnit"), (.object "java/time/temporal/ChronoUnit"), (.object "java/time/temporal/ChronoUnit"), (.object "java/time/temporal/ChronoUnit"), (.object "java/time/temporal/ChronoUnit"), (.object "java/time/temporal/ChronoUnit"), (.object "java/time/temporal/ChronoUnit"), (.array (.object "java/time/temporal/ChronoUnit"))]
  resolved := Array.replicate 237 none
  statics := some 3 }

def pool40 : Array CpInfo := pool [(1, u "java/time/Duration"), (0, .class_ 1), (0, u "java/lang/Object"), (0, .class_ 3)] 0

/-- java/time/Duration -/
def k40 : Class := { plain "java/time/Duration" (some 0) with
  accessFlags := 49
  interfaces := #[]
  cf := some (fileOf pool40 2 #[] #[] 49 4 #[] #[])
  fields := #[]
  methods := #[]
  instanceTypes := #[]
  staticTypes := #[]
  resolved := Array.replicate 5 none
  statics := none }

def pool41 : Array CpInfo := pool [(1, u "java/lang/Class"), (0, .class_ 1), (0, u "java/lang/Object"), (0, .class_ 3)] 0

/-- java/lang/Class -/
def k41 : Class := { plain "java/lang/Class" (some 0) with
  accessFlags := 49
  interfaces := #[]
  cf := some (fileOf pool41 2 #[] #[] 49 4 #[] #[])
  fields := #[]
  methods := #[]
  instanceTypes := #[]
  staticTypes := #[]
  resolved := Array.replicate 5 none
  statics := none }

/-- the primitive byte -/
def k42 : Class := { plain "byte" none with kind := .primitive 'B', accessFlags := 0x411 }
/-- [B -/
def k43 : Class := { plain "[B" (some 0) with kind := .array 42 .byte, interfaces := #[27, 7], accessFlags := 1041 }

/-- the primitive int -/
def k44 : Class := { plain "int" none with kind := .primitive 'I', accessFlags := 0x411 }
/-- [I -/
def k45 : Class := { plain "[I" (some 0) with kind := .array 44 .int, interfaces := #[27, 7], accessFlags := 1041 }

/-- [Ljava/lang/Object; -/
def k46 : Class := { plain "[Ljava/lang/Object;" (some 0) with mirror := some 4, kind := .array 0 (.object "java/lang/Object"), interfaces := #[27, 7], accessFlags := 1041 }

def heap : Heap := #[{ cls := 12, slots := #[.null, .null, .null, .null, .null, .null, .null, .null, .null, .null, .null, .null, .null, .null, .null, .null, .null, .null, .null, .null, .ref 13, .null, .null, .null, .null, .null, .null, .null, .null, .null, .null], vm := .statics 12 },
  { cls := 28, slots := #[.long 0, .int 0, .ref 6, .ref 7], vm := .statics 28 },
  { cls := 30, slots := #[.long 0, .int 0, .null, .ref 15, .ref 14, .null, .null, .null, .int 0, .int 1], vm := .statics 30 },
  { cls := 39, slots := #[.null, .null, .null, .null, .null, .null, .null, .ref 10, .null, .null, .null, .null, .null, .null, .null, .ref 11, .null], vm := .statics 39 },
  { cls := 41, slots := #[], vm := .mirror 46 },
  { cls := 46, slots := #[], vm := .none },
  { cls := 46, slots := #[], vm := .none },
  { cls := 46, slots := #[], vm := .none },
  { cls := 18, slots := #[.null, .int 0, .int 0, .int 0], vm := .none },
  { cls := 40, slots := #[], vm := .none },
  { cls := 39, slots := #[.ref 8, .int 7, .int 0, .ref 8, .ref 9], vm := .none },
  { cls := 39, slots := #[.ref 8, .int 15, .int 0, .ref 8, .ref 9], vm := .none },
  { cls := 13, slots := #[.long (-365243219162), .long (-365243219162), .long 365241780471, .long 365241780471], vm := .none },
  { cls := 12, slots := #[.ref 8, .int 20, .int 0, .ref 8, .ref 10, .ref 11, .ref 12, .null], vm := .none },
  { cls := 34, slots := #[.ref 5, .int 0], vm := .none },
  { cls := 0, slots := #[], vm := .none }]
def classes : Array Class := #[k0, k1, k2, k3, k4, k5, k6, k7, k8, k9, k10, k11, k12, k13, k14, k15, k16, k17, k18, k19, k20, k21, k22, k23, k24, k25, k26, k27, k28, k29, k30, k31, k32, k33, k34, k35, k36, k37, k38, k39, k40, k41, k42, k43, k44, k45, k46]
def interned : List (Array UInt16 × Addr) := []
def slotsUsed : Nat := 90
def theMethod : MethodId := ⟨1, 1⟩
def args0 : Array Value := #[.int 5, .int 5, .int 5, .int 5, .int 5]
def aboutOver (below : List Frame) : State where
  vm := { classes := classes, interned := interned.toArray }
  heap := heap
  slotsUsed := slotsUsed
  threads := #[{ frames := .invoking theMethod args0 :: below }]
def below0 : List Frame := [.native { method := ⟨0, 0⟩, args := #[] }]
def about1 : State := aboutOver below0
def p0 : Program := .bare "" "" ""
def e0 : Env := launch0.env 0 0 0
theorem w_frames : about1.frames = Frame.invoking theMethod args0 :: below0 := rfl
set_option maxRecDepth 65536 in
theorem w_args : argsFit about1.vm theMethod args0 = true := by decide +kernel
set_option maxRecDepth 65536 in
theorem w_heap : heapFits about1 = true := by decide +kernel
set_option maxRecDepth 65536 in
theorem w_runnable : about1.curStatus? = some .runnable := by decide +kernel
set_option maxRecDepth 65536 in
theorem w_alone : about1.alone = true := by decide +kernel
set_option maxRecDepth 65536 in
theorem w_named : about1.methodNamed? x = some theMethod := by decide +kernel
set_option maxRecDepth 65536 in
theorem w_hears : about1.hears theMethod below0 = true := by decide +kernel
set_option maxRecDepth 65536 in
theorem w_ripe : about1.ripe theMethod args0 below0 = true := by decide +kernel
theorem w_running : about1.status = .running := rfl
set_option maxRecDepth 65536 in
theorem w_room : about1.hasRoom e0.platform room_1 = true :=
  launch0.hasRoom_least _ room_1 (by decide +kernel) (by decide +kernel) (by decide +kernel) (by decide +kernel) (by decide +kernel) (by decide +kernel)
theorem allAtoms_all (ts : List Jvm.Cond) (a : Array Jvm.Value) (st : Jvm.State) : (allAtoms ts).before a st = ts.all (fun c => c.before a st) := by
  induction ts with
  | nil => rfl
  | cons c t ih =>
    show (Jvm.Cond.and c (allAtoms t)).before a st = _
    rw [Jvm.Cond.before_and, ih, List.all_cons]
def words1 : List Jvm.Cond := Jvm.Cond.code x code maxLocals ret :: tables_1
/-- a 'code' word, met by the world's own term for the bytes: nothing is compared byte by byte -/
theorem code_word {y : MethodName} {bytes : ByteArray} {mx : Nat} {rt : Option FieldType} {a : Array Value} {s : State} {m : MethodId} {meth : Method} {c : Code} (h1 : s.methodNamed? y = some m) (h2 : s.vm.method? m = some meth) (h3 : meth.code = some c) (h4 : c.code = bytes)
    (h5 : (c.maxLocals == mx && c.exceptionTable.isEmpty && decide (c.maxStack ≤ mostOperands) && decide (meth.sig.returnType = rt) && !meth.locks && decide (parseMethodDescriptor y.desc = some meth.sig)) = true) : (Jvm.Cond.code y bytes mx rt).before a s = true := by
  simp only [Bool.and_eq_true, beq_iff_eq, Bool.not_eq_true', decide_eq_true_eq] at h5
  obtain ⟨⟨⟨⟨⟨g1, g2⟩, g3⟩, g4⟩, g5⟩, g6⟩ := h5
  simp [Cond.before, Cond.holds, Cond.value, h1, h2, h3, h4, g1, g2, g3, g4, g5, g6]
def isCode : Jvm.Cond → Bool
  | .code _ _ _ _ => true
  | _ => false
theorem all_split {L : List Jvm.Cond} {P : Jvm.Cond → Bool} (h1 : L.all (fun c => isCode c || P c) = true) (h2 : ∀ c ∈ L.filter isCode, P c = true) : L.all P = true := by
  refine List.all_eq_true.mpr fun c hc => ?_
  have h := List.all_eq_true.mp h1 c hc
  rcases Bool.eq_false_or_eq_true (isCode c) with hi | hi
  · exact h2 c (List.mem_filter.mpr ⟨hc, hi⟩)
  · simpa [hi] using h
set_option maxRecDepth 65536 in
theorem w_c0 : (Jvm.Cond.code x code maxLocals ret).before args0 about1 = true := code_word (m := ⟨1, 1⟩) (meth := k1m1) (c := k1c1) (by decide +kernel) rfl rfl rfl (by decide +kernel)
set_option maxRecDepth 65536 in
theorem w_c1 : (Jvm.Cond.code ({ cls := "java/time/LocalDate", name := "ofEpochDay", desc := "(J)Ljava/time/LocalDate;" } : Jvm.MethodName) jdk_2323_method_8_code (14 : Nat) (Option.some (Jvm.ClassFile.FieldType.object "java/time/LocalDate"))).before args0 about1 = true := code_word (m := ⟨8, 0⟩) (meth := k8m0) (c := k8c0) (by decide +kernel) rfl rfl rfl (by decide +kernel)
set_option maxRecDepth 65536 in
theorem w_c2 : (Jvm.Cond.code ({ cls := "java/time/temporal/ChronoField", name := "checkValidValue", desc := "(J)J" } : Jvm.MethodName) jdk_2395_method_11_code (3 : Nat) (Option.some Jvm.ClassFile.FieldType.long)).before args0 about1 = true := code_word (m := ⟨12, 1⟩) (meth := k12m1) (c := k12c1) (by decide +kernel) rfl rfl rfl (by decide +kernel)
set_option maxRecDepth 65536 in
theorem w_c3 : (Jvm.Cond.code ({ cls := "java/time/temporal/ChronoField", name := "range", desc := "()Ljava/time/temporal/ValueRange;" } : Jvm.MethodName) jdk_2395_method_8_code (1 : Nat) (Option.some (Jvm.ClassFile.FieldType.object "java/time/temporal/ValueRange"))).before args0 about1 = true := code_word (m := ⟨12, 0⟩) (meth := k12m0) (c := k12c0) (by decide +kernel) rfl rfl rfl (by decide +kernel)
set_option maxRecDepth 65536 in
theorem w_c4 : (Jvm.Cond.code ({ cls := "java/time/temporal/ValueRange", name := "checkValidValue", desc := "(JLjava/time/temporal/TemporalField;)J" } : Jvm.MethodName) jdk_2423_method_13_code (4 : Nat) (Option.some Jvm.ClassFile.FieldType.long)).before args0 about1 = true := code_word (m := ⟨13, 3⟩) (meth := k13m3) (c := k13c3) (by decide +kernel) rfl rfl rfl (by decide +kernel)
set_option maxRecDepth 65536 in
theorem w_c5 : (Jvm.Cond.code ({ cls := "java/time/temporal/ValueRange", name := "isValidValue", desc := "(J)Z" } : Jvm.MethodName) jdk_2423_method_11_code (3 : Nat) (Option.some Jvm.ClassFile.FieldType.boolean)).before args0 about1 = true := code_word (m := ⟨13, 2⟩) (meth := k13m2) (c := k13c2) (by decide +kernel) rfl rfl rfl (by decide +kernel)
set_option maxRecDepth 65536 in
theorem w_c6 : (Jvm.Cond.code ({ cls := "java/time/temporal/ValueRange", name := "getMinimum", desc := "()J" } : Jvm.MethodName) jdk_2423_method_6_code (1 : Nat) (Option.some Jvm.ClassFile.FieldType.long)).before args0 about1 = true := code_word (m := ⟨13, 0⟩) (meth := k13m0) (c := k13c0) (by decide +kernel) rfl rfl rfl (by decide +kernel)
set_option maxRecDepth 65536 in
theorem w_c7 : (Jvm.Cond.code ({ cls := "java/time/temporal/ValueRange", name := "getMaximum", desc := "()J" } : Jvm.MethodName) jdk_2423_method_9_code (1 : Nat) (Option.some Jvm.ClassFile.FieldType.long)).before args0 about1 = true := code_word (m := ⟨13, 1⟩) (meth := k13m1) (c := k13c1) (by decide +kernel) rfl rfl rfl (by decide +kernel)
set_option maxRecDepth 65536 in
theorem w_c8 : (Jvm.Cond.code ({ cls := "java/time/LocalDate", name := "<init>", desc := "(III)V" } : Jvm.MethodName) jdk_2323_method_14_code (4 : Nat) (Option.none : Option Jvm.ClassFile.FieldType)).before args0 about1 = true := code_word (m := ⟨8, 1⟩) (meth := k8m1) (c := k8c1) (by decide +kernel) rfl rfl rfl (by decide +kernel)
set_option maxRecDepth 65536 in
theorem w_c9 : (Jvm.Cond.code ({ cls := "java/lang/Object", name := "<init>", desc := "()V" } : Jvm.MethodName) object_method_1_code (1 : Nat) (Option.none : Option Jvm.ClassFile.FieldType)).before args0 about1 = true := code_word (m := ⟨0, 0⟩) (meth := k0m0) (c := k0c0) (by decide +kernel) rfl rfl rfl (by decide +kernel)
set_option maxRecDepth 65536 in
theorem w_c10 : (Jvm.Cond.code ({ cls := "com/example/vestline/vestline/service/SetAside", name := "<init>", desc := "(Ljava/time/LocalDate;Ljava/time/LocalDate;)V" } : Jvm.MethodName) prog_80_method_1_code (3 : Nat) (Option.none : Option Jvm.ClassFile.FieldType)).before args0 about1 = true := code_word (m := ⟨15, 0⟩) (meth := k15m0) (c := k15c0) (by decide +kernel) rfl rfl rfl (by decide +kernel)
set_option maxRecDepth 65536 in
theorem w_c11 : (Jvm.Cond.code ({ cls := "java/lang/Record", name := "<init>", desc := "()V" } : Jvm.MethodName) jdk_30_method_1_code (1 : Nat) (Option.none : Option Jvm.ClassFile.FieldType)).before args0 about1 = true := code_word (m := ⟨14, 0⟩) (meth := k14m0) (c := k14c0) (by decide +kernel) rfl rfl rfl (by decide +kernel)
set_option maxRecDepth 65536 in
theorem w_c12 : (Jvm.Cond.code ({ cls := "java/util/Objects", name := "requireNonNull", desc := "(Ljava/lang/Object;Ljava/lang/String;)Ljava/lang/Object;" } : Jvm.MethodName) jdk_31_method_11_code (2 : Nat) (Option.some (Jvm.ClassFile.FieldType.object "java/lang/Object"))).before args0 about1 = true := code_word (m := ⟨19, 2⟩) (meth := k19m2) (c := k19c2) (by decide +kernel) rfl rfl rfl (by decide +kernel)
set_option maxRecDepth 65536 in
theorem w_c13 : (Jvm.Cond.code ({ cls := "java/util/ArrayList", name := "<init>", desc := "()V" } : Jvm.MethodName) jdk_38_method_2_code (1 : Nat) (Option.none : Option Jvm.ClassFile.FieldType)).before args0 about1 = true := code_word (m := ⟨28, 0⟩) (meth := k28m0) (c := k28c0) (by decide +kernel) rfl rfl rfl (by decide +kernel)
set_option maxRecDepth 65536 in
theorem w_c14 : (Jvm.Cond.code ({ cls := "java/util/AbstractList", name := "<init>", desc := "()V" } : Jvm.MethodName) jdk_39_method_1_code (1 : Nat) (Option.none : Option Jvm.ClassFile.FieldType)).before args0 about1 = true := code_word (m := ⟨25, 0⟩) (meth := k25m0) (c := k25c0) (by decide +kernel) rfl rfl rfl (by decide +kernel)
set_option maxRecDepth 65536 in
theorem w_c15 : (Jvm.Cond.code ({ cls := "java/util/AbstractCollection", name := "<init>", desc := "()V" } : Jvm.MethodName) jdk_22_method_1_code (1 : Nat) (Option.none : Option Jvm.ClassFile.FieldType)).before args0 about1 = true := code_word (m := ⟨22, 0⟩) (meth := k22m0) (c := k22c0) (by decide +kernel) rfl rfl rfl (by decide +kernel)
set_option maxRecDepth 65536 in
theorem w_c16 : (Jvm.Cond.code ({ cls := "com/example/vestline/vestline/service/ServiceCount", name := "<init>", desc := "(Ljava/util/List;ILjava/util/List;)V" } : Jvm.MethodName) prog_76_method_1_code (4 : Nat) (Option.none : Option Jvm.ClassFile.FieldType)).before args0 about1 = true := code_word (m := ⟨29, 0⟩) (meth := k29m0) (c := k29c0) (by decide +kernel) rfl rfl rfl (by decide +kernel)
set_option maxRecDepth 65536 in
theorem w_c17 : (Jvm.Cond.code ({ cls := "java/util/List", name := "copyOf", desc := "(Ljava/util/Collection;)Ljava/util/List;" } : Jvm.MethodName) jdk_40_method_48_code (1 : Nat) (Option.some (Jvm.ClassFile.FieldType.object "java/util/List"))).before args0 about1 = true := code_word (m := ⟨24, 5⟩) (meth := k24m5) (c := k24c5) (by decide +kernel) rfl rfl rfl (by decide +kernel)
set_option maxRecDepth 65536 in
theorem w_c18 : (Jvm.Cond.code ({ cls := "java/util/ImmutableCollections", name := "listCopy", desc := "(Ljava/util/Collection;)Ljava/util/List;" } : Jvm.MethodName) jdk_56_method_3_code (2 : Nat) (Option.some (Jvm.ClassFile.FieldType.object "java/util/List"))).before args0 about1 = true := code_word (m := ⟨30, 1⟩) (meth := k30m1) (c := k30c1) (by decide +kernel) rfl rfl rfl (by decide +kernel)
set_option maxRecDepth 65536 in
theorem w_c19 : (Jvm.Cond.code ({ cls := "java/util/ArrayList", name := "isEmpty", desc := "()Z" } : Jvm.MethodName) jdk_38_method_9_code (1 : Nat) (Option.some Jvm.ClassFile.FieldType.boolean)).before args0 about1 = true := code_word (m := ⟨28, 3⟩) (meth := k28m3) (c := k28c3) (by decide +kernel) rfl rfl rfl (by decide +kernel)
set_option maxRecDepth 65536 in
theorem w_c20 : (Jvm.Cond.code ({ cls := "java/util/List", name := "of", desc := "()Ljava/util/List;" } : Jvm.MethodName) jdk_40_method_36_code (0 : Nat) (Option.some (Jvm.ClassFile.FieldType.object "java/util/List"))).before args0 about1 = true := code_word (m := ⟨24, 3⟩) (meth := k24m3) (c := k24c3) (by decide +kernel) rfl rfl rfl (by decide +kernel)
set_option maxRecDepth 65536 in
theorem w_c21 : (Jvm.Cond.code ({ cls := "com/example/vestline/vestline/service/ServiceCount", name := "setAsideBefore", desc := "()Ljava/time/LocalDate;" } : Jvm.MethodName) prog_76_method_2_code (1 : Nat) (Option.some (Jvm.ClassFile.FieldType.object "java/time/LocalDate"))).before args0 about1 = true := code_word (m := ⟨29, 1⟩) (meth := k29m1) (c := k29c1) (by decide +kernel) rfl rfl rfl (by decide +kernel)
set_option maxRecDepth 65536 in
theorem w_c22 : (Jvm.Cond.code ({ cls := "java/util/ImmutableCollections$ListN", name := "isEmpty", desc := "()Z" } : Jvm.MethodName) jdk_45_method_2_code (1 : Nat) (Option.some Jvm.ClassFile.FieldType.boolean)).before args0 about1 = true := code_word (m := ⟨34, 0⟩) (meth := k34m0) (c := k34c0) (by decide +kernel) rfl rfl rfl (by decide +kernel)
set_option maxRecDepth 65536 in
theorem w_c23 : (Jvm.Cond.code ({ cls := "java/util/ArrayList", name := "add", desc := "(Ljava/lang/Object;)Z" } : Jvm.MethodName) jdk_38_method_25_code (2 : Nat) (Option.some Jvm.ClassFile.FieldType.boolean)).before args0 about1 = true := code_word (m := ⟨28, 6⟩) (meth := k28m6) (c := k28c6) (by decide +kernel) rfl rfl rfl (by decide +kernel)
set_option maxRecDepth 65536 in
theorem w_c24 : (Jvm.Cond.code ({ cls := "java/util/ArrayList", name := "add", desc := "(Ljava/lang/Object;[Ljava/lang/Object;I)V" } : Jvm.MethodName) jdk_38_method_24_code (4 : Nat) (Option.none : Option Jvm.ClassFile.FieldType)).before args0 about1 = true := code_word (m := ⟨28, 5⟩) (meth := k28m5) (c := k28c5) (by decide +kernel) rfl rfl rfl (by decide +kernel)
set_option maxRecDepth 65536 in
theorem w_c25 : (Jvm.Cond.code ({ cls := "java/util/ArrayList", name := "grow", desc := "()[Ljava/lang/Object;" } : Jvm.MethodName) jdk_38_method_7_code (1 : Nat) (Option.some (Jvm.ClassFile.FieldType.array (Jvm.ClassFile.FieldType.object "java/lang/Object")))).before args0 about1 = true := code_word (m := ⟨28, 2⟩) (meth := k28m2) (c := k28c2) (by decide +kernel) rfl rfl rfl (by decide +kernel)
set_option maxRecDepth 65536 in
theorem w_c26 : (Jvm.Cond.code ({ cls := "java/util/ArrayList", name := "grow", desc := "(I)[Ljava/lang/Object;" } : Jvm.MethodName) jdk_38_method_6_code (4 : Nat) (Option.some (Jvm.ClassFile.FieldType.array (Jvm.ClassFile.FieldType.object "java/lang/Object")))).before args0 about1 = true := code_word (m := ⟨28, 1⟩) (meth := k28m1) (c := k28c1) (by decide +kernel) rfl rfl rfl (by decide +kernel)
set_option maxRecDepth 65536 in
theorem w_c27 : (Jvm.Cond.code ({ cls := "java/lang/Math", name := "max", desc := "(II)I" } : Jvm.MethodName) jdk_29_method_65_code (2 : Nat) (Option.some Jvm.ClassFile.FieldType.int)).before args0 about1 = true := code_word (m := ⟨35, 1⟩) (meth := k35m1) (c := k35c1) (by decide +kernel) rfl rfl rfl (by decide +kernel)
set_option maxRecDepth 65536 in
theorem w_c28 : (Jvm.Cond.code ({ cls := "java/util/ArrayList", name := "toArray", desc := "()[Ljava/lang/Object;" } : Jvm.MethodName) jdk_38_method_16_code (1 : Nat) (Option.some (Jvm.ClassFile.FieldType.array (Jvm.ClassFile.FieldType.object "java/lang/Object")))).before args0 about1 = true := code_word (m := ⟨28, 4⟩) (meth := k28m4) (c := k28c4) (by decide +kernel) rfl rfl rfl (by decide +kernel)
set_option maxRecDepth 65536 in
theorem w_c29 : (Jvm.Cond.code ({ cls := "java/util/Arrays", name := "copyOf", desc := "([Ljava/lang/Object;I)[Ljava/lang/Object;" } : Jvm.MethodName) jdk_65_method_119_code (2 : Nat) (Option.some (Jvm.ClassFile.FieldType.array (Jvm.ClassFile.FieldType.object "java/lang/Object")))).before args0 about1 = true := code_word (m := ⟨36, 1⟩) (meth := k36m1) (c := k36c1) (by decide +kernel) rfl rfl rfl (by decide +kernel)
set_option maxRecDepth 65536 in
theorem w_c30 : (Jvm.Cond.code ({ cls := "java/util/Arrays", name := "copyOf", desc := "([Ljava/lang/Object;ILjava/lang/Class;)[Ljava/lang/Object;" } : Jvm.MethodName) jdk_65_method_120_code (4 : Nat) (Option.some (Jvm.ClassFile.FieldType.array (Jvm.ClassFile.FieldType.object "java/lang/Object")))).before args0 about1 = true := code_word (m := ⟨36, 2⟩) (meth := k36m2) (c := k36c2) (by decide +kernel) rfl rfl rfl (by decide +kernel)
set_option maxRecDepth 65536 in
theorem w_c31 : (Jvm.Cond.code ({ cls := "java/lang/Math", name := "min", desc := "(II)I" } : Jvm.MethodName) jdk_29_method_69_code (2 : Nat) (Option.some Jvm.ClassFile.FieldType.int)).before args0 about1 = true := code_word (m := ⟨35, 2⟩) (meth := k35m2) (c := k35c2) (by decide +kernel) rfl rfl rfl (by decide +kernel)
set_option maxRecDepth 65536 in
theorem w_c32 : (Jvm.Cond.code ({ cls := "java/util/List", name := "of", desc := "([Ljava/lang/Object;)Ljava/util/List;" } : Jvm.MethodName) jdk_40_method_47_code (2 : Nat) (Option.some (Jvm.ClassFile.FieldType.object "java/util/List"))).before args0 about1 = true := code_word (m := ⟨24, 4⟩) (meth := k24m4) (c := k24c4) (by decide +kernel) rfl rfl rfl (by decide +kernel)
set_option maxRecDepth 65536 in
theorem w_c33 : (Jvm.Cond.code ({ cls := "java/util/ImmutableCollections$List12", name := "<init>", desc := "(Ljava/lang/Object;Ljava/lang/Object;)V" } : Jvm.MethodName) jdk_44_method_2_code (3 : Nat) (Option.none : Option Jvm.ClassFile.FieldType)).before args0 about1 = true := code_word (m := ⟨33, 1⟩) (meth := k33m1) (c := k33c1) (by decide +kernel) rfl rfl rfl (by decide +kernel)
set_option maxRecDepth 65536 in
theorem w_c34 : (Jvm.Cond.code ({ cls := "java/util/ImmutableCollections$AbstractImmutableList", name := "<init>", desc := "()V" } : Jvm.MethodName) jdk_46_method_1_code (1 : Nat) (Option.none : Option Jvm.ClassFile.FieldType)).before args0 about1 = true := code_word (m := ⟨32, 0⟩) (meth := k32m0) (c := k32c0) (by decide +kernel) rfl rfl rfl (by decide +kernel)
set_option maxRecDepth 65536 in
theorem w_c35 : (Jvm.Cond.code ({ cls := "java/util/ImmutableCollections$AbstractImmutableCollection", name := "<init>", desc := "()V" } : Jvm.MethodName) jdk_47_method_1_code (1 : Nat) (Option.none : Option Jvm.ClassFile.FieldType)).before args0 about1 = true := code_word (m := ⟨31, 0⟩) (meth := k31m0) (c := k31c0) (by decide +kernel) rfl rfl rfl (by decide +kernel)
set_option maxRecDepth 65536 in
theorem w_c36 : (Jvm.Cond.code ({ cls := "java/util/Objects", name := "requireNonNull", desc := "(Ljava/lang/Object;)Ljava/lang/Object;" } : Jvm.MethodName) jdk_31_method_10_code (1 : Nat) (Option.some (Jvm.ClassFile.FieldType.object "java/lang/Object"))).before args0 about1 = true := code_word (m := ⟨19, 1⟩) (meth := k19m1) (c := k19c1) (by decide +kernel) rfl rfl rfl (by decide +kernel)
set_option maxRecDepth 65536 in
theorem w_c37 : (Jvm.Cond.code ({ cls := "java/util/ImmutableCollections$List12", name := "isEmpty", desc := "()Z" } : Jvm.MethodName) jdk_44_method_4_code (1 : Nat) (Option.some Jvm.ClassFile.FieldType.boolean)).before args0 about1 = true := code_word (m := ⟨33, 3⟩) (meth := k33m3) (c := k33c3) (by decide +kernel) rfl rfl rfl (by decide +kernel)
set_option maxRecDepth 65536 in
theorem w_c38 : (Jvm.Cond.code ({ cls := "java/util/ImmutableCollections$List12", name := "size", desc := "()I" } : Jvm.MethodName) jdk_44_method_3_code (1 : Nat) (Option.some Jvm.ClassFile.FieldType.int)).before args0 about1 = true := code_word (m := ⟨33, 2⟩) (meth := k33m2) (c := k33c2) (by decide +kernel) rfl rfl rfl (by decide +kernel)
set_option maxRecDepth 65536 in
theorem w_c39 : (Jvm.Cond.code ({ cls := "java/util/ImmutableCollections$List12", name := "get", desc := "(I)Ljava/lang/Object;" } : Jvm.MethodName) jdk_44_method_5_code (2 : Nat) (Option.some (Jvm.ClassFile.FieldType.object "java/lang/Object"))).before args0 about1 = true := code_word (m := ⟨33, 4⟩) (meth := k33m4) (c := k33c4) (by decide +kernel) rfl rfl rfl (by decide +kernel)
set_option maxRecDepth 65536 in
theorem w_c40 : (Jvm.Cond.code ({ cls := "com/example/vestline/vestline/service/SetAside", name := "before", desc := "()Ljava/time/LocalDate;" } : Jvm.MethodName) prog_80_method_5_code (1 : Nat) (Option.some (Jvm.ClassFile.FieldType.object "java/time/LocalDate"))).before args0 about1 = true := code_word (m := ⟨15, 1⟩) (meth := k15m1) (c := k15c1) (by decide +kernel) rfl rfl rfl (by decide +kernel)
set_option maxRecDepth 65536 in
theorem w_c41 : (Jvm.Cond.code ({ cls := "java/util/ImmutableCollections$List12", name := "<init>", desc := "(Ljava/lang/Object;)V" } : Jvm.MethodName) jdk_44_method_1_code (2 : Nat) (Option.none : Option Jvm.ClassFile.FieldType)).before args0 about1 = true := code_word (m := ⟨33, 0⟩) (meth := k33m0) (c := k33c0) (by decide +kernel) rfl rfl rfl (by decide +kernel)
def codes1 : List Jvm.Cond := [Jvm.Cond.code x code maxLocals ret, Jvm.Cond.code ({ cls := "java/time/LocalDate", name := "ofEpochDay", desc := "(J)Ljava/time/LocalDate;" } : Jvm.MethodName) jdk_2323_method_8_code (14 : Nat) (Option.some (Jvm.ClassFile.FieldType.object "java/time/LocalDate")), Jvm.Cond.code ({ cls := "java/time/temporal/ChronoField", name := "checkValidValue", desc := "(J)J" } : Jvm.MethodName) jdk_2395_method_11_code (3 : Nat) (Option.some Jvm.ClassFile.FieldType.long), Jvm.Cond.code ({ cls := "java/time/temporal/ChronoField", name := "range", desc := "()Ljava/time/temporal/ValueRange;" } : Jvm.MethodName) jdk_2395_method_8_code (1 : Nat) (Option.some (Jvm.ClassFile.FieldType.object "java/time/temporal/ValueRange")), Jvm.Cond.code ({ cls := "java/time/temporal/ValueRange", name := "checkValidValue", desc := "(JLjava/time/temporal/TemporalField;)J" } : Jvm.MethodName) jdk_2423_method_13_code (4 : Nat) (Option.some Jvm.ClassFile.FieldType.long), Jvm.Cond.code ({ cls := "java/time/temporal/ValueRange", name := "isValidValue", desc := "(J)Z" } : Jvm.MethodName) jdk_2423_method_11_code (3 : Nat) (Option.some Jvm.ClassFile.FieldType.boolean), Jvm.Cond.code ({ cls := "java/time/temporal/ValueRange", name := "getMinimum", desc := "()J" } : Jvm.MethodName) jdk_2423_method_6_code (1 : Nat) (Option.some Jvm.ClassFile.FieldType.long), Jvm.Cond.code ({ cls := "java/time/temporal/ValueRange", name := "getMaximum", desc := "()J" } : Jvm.MethodName) jdk_2423_method_9_code (1 : Nat) (Option.some Jvm.ClassFile.FieldType.long), Jvm.Cond.code ({ cls := "java/time/LocalDate", name := "<init>", desc := "(III)V" } : Jvm.MethodName) jdk_2323_method_14_code (4 : Nat) (Option.none : Option Jvm.ClassFile.FieldType), Jvm.Cond.code ({ cls := "java/lang/Object", name := "<init>", desc := "()V" } : Jvm.MethodName) object_method_1_code (1 : Nat) (Option.none : Option Jvm.ClassFile.FieldType), Jvm.Cond.code ({ cls := "com/example/vestline/vestline/service/SetAside", name := "<init>", desc := "(Ljava/time/LocalDate;Ljava/time/LocalDate;)V" } : Jvm.MethodName) prog_80_method_1_code (3 : Nat) (Option.none : Option Jvm.ClassFile.FieldType), Jvm.Cond.code ({ cls := "java/lang/Record", name := "<init>", desc := "()V" } : Jvm.MethodName) jdk_30_method_1_code (1 : Nat) (Option.none : Option Jvm.ClassFile.FieldType), Jvm.Cond.code ({ cls := "java/util/Objects", name := "requireNonNull", desc := "(Ljava/lang/Object;Ljava/lang/String;)Ljava/lang/Object;" } : Jvm.MethodName) jdk_31_method_11_code (2 : Nat) (Option.some (Jvm.ClassFile.FieldType.object "java/lang/Object")), Jvm.Cond.code ({ cls := "java/util/ArrayList", name := "<init>", desc := "()V" } : Jvm.MethodName) jdk_38_method_2_code (1 : Nat) (Option.none : Option Jvm.ClassFile.FieldType), Jvm.Cond.code ({ cls := "java/util/AbstractList", name := "<init>", desc := "()V" } : Jvm.MethodName) jdk_39_method_1_code (1 : Nat) (Option.none : Option Jvm.ClassFile.FieldType), Jvm.Cond.code ({ cls := "java/util/AbstractCollection", name := "<init>", desc := "()V" } : Jvm.MethodName) jdk_22_method_1_code (1 : Nat) (Option.none : Option Jvm.ClassFile.FieldType), Jvm.Cond.code ({ cls := "com/example/vestline/vestline/service/ServiceCount", name := "<init>", desc := "(Ljava/util/List;ILjava/util/List;)V" } : Jvm.MethodName) prog_76_method_1_code (4 : Nat) (Option.none : Option Jvm.ClassFile.FieldType), Jvm.Cond.code ({ cls := "java/util/List", name := "copyOf", desc := "(Ljava/util/Collection;)Ljava/util/List;" } : Jvm.MethodName) jdk_40_method_48_code (1 : Nat) (Option.some (Jvm.ClassFile.FieldType.object "java/util/List")), Jvm.Cond.code ({ cls := "java/util/ImmutableCollections", name := "listCopy", desc := "(Ljava/util/Collection;)Ljava/util/List;" } : Jvm.MethodName) jdk_56_method_3_code (2 : Nat) (Option.some (Jvm.ClassFile.FieldType.object "java/util/List")), Jvm.Cond.code ({ cls := "java/util/ArrayList", name := "isEmpty", desc := "()Z" } : Jvm.MethodName) jdk_38_method_9_code (1 : Nat) (Option.some Jvm.ClassFile.FieldType.boolean), Jvm.Cond.code ({ cls := "java/util/List", name := "of", desc := "()Ljava/util/List;" } : Jvm.MethodName) jdk_40_method_36_code (0 : Nat) (Option.some (Jvm.ClassFile.FieldType.object "java/util/List")), Jvm.Cond.code ({ cls := "com/example/vestline/vestline/service/ServiceCount", name := "setAsideBefore", desc := "()Ljava/time/LocalDate;" } : Jvm.MethodName) prog_76_method_2_code (1 : Nat) (Option.some (Jvm.ClassFile.FieldType.object "java/time/LocalDate")), Jvm.Cond.code ({ cls := "java/util/ImmutableCollections$ListN", name := "isEmpty", desc := "()Z" } : Jvm.MethodName) jdk_45_method_2_code (1 : Nat) (Option.some Jvm.ClassFile.FieldType.boolean), Jvm.Cond.code ({ cls := "java/util/ArrayList", name := "add", desc := "(Ljava/lang/Object;)Z" } : Jvm.MethodName) jdk_38_method_25_code (2 : Nat) (Option.some Jvm.ClassFile.FieldType.boolean), Jvm.Cond.code ({ cls := "java/util/ArrayList", name := "add", desc := "(Ljava/lang/Object;[Ljava/lang/Object;I)V" } : Jvm.MethodName) jdk_38_method_24_code (4 : Nat) (Option.none : Option Jvm.ClassFile.FieldType), Jvm.Cond.code ({ cls := "java/util/ArrayList", name := "grow", desc := "()[Ljava/lang/Object;" } : Jvm.MethodName) jdk_38_method_7_code (1 : Nat) (Option.some (Jvm.ClassFile.FieldType.array (Jvm.ClassFile.FieldType.object "java/lang/Object"))), Jvm.Cond.code ({ cls := "java/util/ArrayList", name := "grow", desc := "(I)[Ljava/lang/Object;" } : Jvm.MethodName) jdk_38_method_6_code (4 : Nat) (Option.some (Jvm.ClassFile.FieldType.array (Jvm.ClassFile.FieldType.object "java/lang/Object"))), Jvm.Cond.code ({ cls := "java/lang/Math", name := "max", desc := "(II)I" } : Jvm.MethodName) jdk_29_method_65_code (2 : Nat) (Option.some Jvm.ClassFile.FieldType.int), Jvm.Cond.code ({ cls := "java/util/ArrayList", name := "toArray", desc := "()[Ljava/lang/Object;" } : Jvm.MethodName) jdk_38_method_16_code (1 : Nat) (Option.some (Jvm.ClassFile.FieldType.array (Jvm.ClassFile.FieldType.object "java/lang/Object"))), Jvm.Cond.code ({ cls := "java/util/Arrays", name := "copyOf", desc := "([Ljava/lang/Object;I)[Ljava/lang/Object;" } : Jvm.MethodName) jdk_65_method_119_code (2 : Nat) (Option.some (Jvm.ClassFile.FieldType.array (Jvm.ClassFile.FieldType.object "java/lang/Object"))), Jvm.Cond.code ({ cls := "java/util/Arrays", name := "copyOf", desc := "([Ljava/lang/Object;ILjava/lang/Class;)[Ljava/lang/Object;" } : Jvm.MethodName) jdk_65_method_120_code (4 : Nat) (Option.some (Jvm.ClassFile.FieldType.array (Jvm.ClassFile.FieldType.object "java/lang/Object"))), Jvm.Cond.code ({ cls := "java/lang/Math", name := "min", desc := "(II)I" } : Jvm.MethodName) jdk_29_method_69_code (2 : Nat) (Option.some Jvm.ClassFile.FieldType.int), Jvm.Cond.code ({ cls := "java/util/List", name := "of", desc := "([Ljava/lang/Object;)Ljava/util/List;" } : Jvm.MethodName) jdk_40_method_47_code (2 : Nat) (Option.some (Jvm.ClassFile.FieldType.object "java/util/List")), Jvm.Cond.code ({ cls := "java/util/ImmutableCollections$List12", name := "<init>", desc := "(Ljava/lang/Object;Ljava/lang/Object;)V" } : Jvm.MethodName) jdk_44_method_2_code (3 : Nat) (Option.none : Option Jvm.ClassFile.FieldType), Jvm.Cond.code ({ cls := "java/util/ImmutableCollections$AbstractImmutableList", name := "<init>", desc := "()V" } : Jvm.MethodName) jdk_46_method_1_code (1 : Nat) (Option.none : Option Jvm.ClassFile.FieldType), Jvm.Cond.code ({ cls := "java/util/ImmutableCollections$AbstractImmutableCollection", name := "<init>", desc := "()V" } : Jvm.MethodName) jdk_47_method_1_code (1 : Nat) (Option.none : Option Jvm.ClassFile.FieldType), Jvm.Cond.code ({ cls := "java/util/Objects", name := "requireNonNull", desc := "(Ljava/lang/Object;)Ljava/lang/Object;" } : Jvm.MethodName) jdk_31_method_10_code (1 : Nat) (Option.some (Jvm.ClassFile.FieldType.object "java/lang/Object")), Jvm.Cond.code ({ cls := "java/util/ImmutableCollections$List12", name := "isEmpty", desc := "()Z" } : Jvm.MethodName) jdk_44_method_4_code (1 : Nat) (Option.some Jvm.ClassFile.FieldType.boolean), Jvm.Cond.code ({ cls := "java/util/ImmutableCollections$List12", name := "size", desc := "()I" } : Jvm.MethodName) jdk_44_method_3_code (1 : Nat) (Option.some Jvm.ClassFile.FieldType.int), Jvm.Cond.code ({ cls := "java/util/ImmutableCollections$List12", name := "get", desc := "(I)Ljava/lang/Object;" } : Jvm.MethodName) jdk_44_method_5_code (2 : Nat) (Option.some (Jvm.ClassFile.FieldType.object "java/lang/Object")), Jvm.Cond.code ({ cls := "com/example/vestline/vestline/service/SetAside", name := "before", desc := "()Ljava/time/LocalDate;" } : Jvm.MethodName) prog_80_method_5_code (1 : Nat) (Option.some (Jvm.ClassFile.FieldType.object "java/time/LocalDate")), Jvm.Cond.code ({ cls := "java/util/ImmutableCollections$List12", name := "<init>", desc := "(Ljava/lang/Object;)V" } : Jvm.MethodName) jdk_44_method_1_code (2 : Nat) (Option.none : Option Jvm.ClassFile.FieldType)]
set_option maxRecDepth 65536 in
theorem codes_eq : words1.filter isCode = codes1 := rfl
theorem w_codes : ∀ c ∈ words1.filter isCode, c.before args0 about1 = true := by
  rw [codes_eq]
  intro c hc
  simp only [codes1, List.mem_cons, List.not_mem_nil, or_false] at hc
  rcases hc with rfl | rfl | rfl | rfl | rfl | rfl | rfl | rfl | rfl | rfl | rfl | rfl | rfl | rfl | rfl | rfl | rfl | rfl | rfl | rfl | rfl | rfl | rfl | rfl | rfl | rfl | rfl | rfl | rfl | rfl | rfl | rfl | rfl | rfl | rfl | rfl | rfl | rfl | rfl | rfl | rfl | rfl
  · exact w_c0
  · exact w_c1
  · exact w_c2
  · exact w_c3
  · exact w_c4
  · exact w_c5
  · exact w_c6
  · exact w_c7
  · exact w_c8
  · exact w_c9
  · exact w_c10
  · exact w_c11
  · exact w_c12
  · exact w_c13
  · exact w_c14
  · exact w_c15
  · exact w_c16
  · exact w_c17
  · exact w_c18
  · exact w_c19
  · exact w_c20
  · exact w_c21
  · exact w_c22
  · exact w_c23
  · exact w_c24
  · exact w_c25
  · exact w_c26
  · exact w_c27
  · exact w_c28
  · exact w_c29
  · exact w_c30
  · exact w_c31
  · exact w_c32
  · exact w_c33
  · exact w_c34
  · exact w_c35
  · exact w_c36
  · exact w_c37
  · exact w_c38
  · exact w_c39
  · exact w_c40
  · exact w_c41
set_option maxRecDepth 65536 in
theorem w_t1 : (words1.take 24).all (fun c => isCode c || c.before args0 about1) = true := by decide +kernel
set_option maxRecDepth 65536 in
theorem w_t2 : ((words1.drop 24).take 24).all (fun c => isCode c || c.before args0 about1) = true := by decide +kernel
set_option maxRecDepth 65536 in
theorem w_t3 : (((words1.drop 24).drop 24).take 24).all (fun c => isCode c || c.before args0 about1) = true := by decide +kernel
set_option maxRecDepth 65536 in
theorem w_t4 : ((((words1.drop 24).drop 24).drop 24).take 24).all (fun c => isCode c || c.before args0 about1) = true := by decide +kernel
set_option maxRecDepth 65536 in
theorem w_t5 : (((((words1.drop 24).drop 24).drop 24).drop 24).take 24).all (fun c => isCode c || c.before args0 about1) = true := by decide +kernel
set_option maxRecDepth 65536 in
theorem w_t6 : ((((((words1.drop 24).drop 24).drop 24).drop 24).drop 24).take 24).all (fun c => isCode c || c.before args0 about1) = true := by decide +kernel
set_option maxRecDepth 65536 in
theorem w_t7 : (((((((words1.drop 24).drop 24).drop 24).drop 24).drop 24).drop 24).take 24).all (fun c => isCode c || c.before args0 about1) = true := by decide +kernel
set_option maxRecDepth 65536 in
theorem w_t8 : ((((((((words1.drop 24).drop 24).drop 24).drop 24).drop 24).drop 24).drop 24).take 24).all (fun c => isCode c || c.before args0 about1) = true := by decide +kernel
set_option maxRecDepth 65536 in
theorem w_t9 : (((((((((words1.drop 24).drop 24).drop 24).drop 24).drop 24).drop 24).drop 24).drop 24).take 24).all (fun c => isCode c || c.before args0 about1) = true := by decide +kernel
set_option maxRecDepth 65536 in
theorem w_t10 : ((((((((((words1.drop 24).drop 24).drop 24).drop 24).drop 24).drop 24).drop 24).drop 24).drop 24).take 24).all (fun c => isCode c || c.before args0 about1) = true := by decide +kernel
set_option maxRecDepth 65536 in
theorem w_t11 : (((((((((((words1.drop 24).drop 24).drop 24).drop 24).drop 24).drop 24).drop 24).drop 24).drop 24).drop 24).take 24).all (fun c => isCode c || c.before args0 about1) = true := by decide +kernel
set_option maxRecDepth 65536 in
theorem w_t12 : ((((((((((((words1.drop 24).drop 24).drop 24).drop 24).drop 24).drop 24).drop 24).drop 24).drop 24).drop 24).drop 24).take 24).all (fun c => isCode c || c.before args0 about1) = true := by decide +kernel
set_option maxRecDepth 65536 in
theorem w_t13 : ((((((((((((words1.drop 24).drop 24).drop 24).drop 24).drop 24).drop 24).drop 24).drop 24).drop 24).drop 24).drop 24).drop 24).all (fun c => isCode c || c.before args0 about1) = true := by decide +kernel
theorem w_tables : (allAtoms (Jvm.Cond.code x code maxLocals ret :: tables_1)).before args0 about1 = true := by
  rw [allAtoms_all]
  show words1.all (fun c => c.before args0 about1) = true
  refine all_split ?_ w_codes
  rw [← List.take_append_drop 24 words1, List.all_append, w_t1, ← List.take_append_drop 24 (words1.drop 24), List.all_append, w_t2, ← List.take_append_drop 24 ((words1.drop 24).drop 24), List.all_append, w_t3, ← List.take_append_drop 24 (((words1.drop 24).drop 24).drop 24), List.all_append, w_t4, ← List.take_append_drop 24 ((((words1.drop 24).drop 24).drop 24).drop 24), List.all_append, w_t5, ← List.take_append_drop 24 (((((words1.drop 24).drop 24).drop 24).drop 24).drop 24), List.all_append, w_t6, ← List.take_append_drop 24 ((((((words1.drop 24).drop 24).drop 24).drop 24).drop 24).drop 24), List.all_append, w_t7, ← List.take_append_drop 24 (((((((words1.drop 24).drop 24).drop 24).drop 24).drop 24).drop 24).drop 24), List.all_append, w_t8, ← List.take_append_drop 24 ((((((((words1.drop 24).drop 24).drop 24).drop 24).drop 24).drop 24).drop 24).drop 24), List.all_append, w_t9, ← List.take_append_drop 24 (((((((((words1.drop 24).drop 24).drop 24).drop 24).drop 24).drop 24).drop 24).drop 24).drop 24), List.all_append, w_t10, ← List.take_append_drop 24 ((((((((((words1.drop 24).drop 24).drop 24).drop 24).drop 24).drop 24).drop 24).drop 24).drop 24).drop 24), List.all_append, w_t11, ← List.take_append_drop 24 (((((((((((words1.drop 24).drop 24).drop 24).drop 24).drop 24).drop 24).drop 24).drop 24).drop 24).drop 24).drop 24), List.all_append, w_t12, w_t13]
  rfl
set_option maxRecDepth 65536 in
theorem w_rest : rest_1_c.before args0 about1 = true := by decide +kernel
set_option maxRecDepth 65536 in
theorem w_case : (Jvm.Cond.and given_1 narrow_1).before args0 about1 = true := by decide +kernel
theorem w_applies : (headSpec (Jvm.Cond.code x code maxLocals ret :: tables_1) room_1).applies x e0.platform about1 = true :=
  (Spec.applies_iff w_frames).mpr ⟨w_running, w_runnable, w_alone, w_named, w_hears, w_ripe, w_room, w_tables⟩
theorem atStart : AtStart classFile x code maxLocals ret World_1 tables_1 room_1 Calls_1 rest_1 Pre_1 launch0 p0 e0 about1 theMethod args0 below0 :=
  ⟨lists_1, trivial, launch0.admits_env _ _ _, launch0.least_env, fairChoices_fair.cas, fairChoices_fair.clock, w_frames, w_args, w_heap, w_applies, ⟨⟨46, k46, 4, by decide +kernel, rfl, rfl, _, rfl, rfl⟩, trivial⟩, w_rest, w_case⟩
end start1
theorem witness_1 : WitnessClaimed_1 := ⟨start1.p0, start1.e0, start1.about1, start1.theMethod, start1.args0, start1.below0, start1.atStart⟩
end Jvm.Pilot.@@N@@
