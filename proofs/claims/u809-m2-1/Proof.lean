import JvmDerived
import JvmDerived.Pilot.@@N@@Statement
import JvmDerived.Pilot.@@N@@Code
set_option linter.unusedVariables false
set_option linter.unusedSimpArgs false
namespace Jvm.Pilot.@@N@@
open Jvm Jvm.ClassFile Sem Op Lib Jvm.Free Jvm.Stand Jvm.LawKit Jvm.RoadKit Bundle Jvm.Pilot.@@N@@.Jvm.D
/-! the run comes from here to an end at which Q holds -/
def own_Comes (p : Program) (e : Env) (below : List Frame) (Q : Outcome → State → Prop) (T : State) (f : JFrame) : Prop :=
  ∃ s₂ o, Steps p.tables e below (T.setTop f) s₂ ∧ s₂.status = .running ∧ Ended s₂ below o ∧ Q o s₂
theorem own_lift {p : Program} {e : Env} {below : List Frame} {Q : Outcome → State → Prop} {T T' : State} {f f' : JFrame} (st : ∀ t, Steps p.tables e below (T'.setTop f') t → Steps p.tables e below (T.setTop f) t) (h : own_Comes p e below Q T' f') : own_Comes p e below Q T f := by
  obtain ⟨s₂, o, a, b⟩ := h
  exact ⟨s₂, o, st _ a, b⟩
theorem own_start {p : Program} {e : Env} {below : List Frame} {Q : Outcome → State → Prop} {T : State} {g g' : JFrame} (q : g = g') (h : own_Comes p e below Q T g') : ∃ s₂ o, Steps p.tables e below (T.setTop g) s₂ ∧ s₂.status = .running ∧ Ended s₂ below o ∧ Q o s₂ := by
  subst q; exact h
/-! what a body that writes and makes nothing leaves -/
def own_Q (val : Value) (h0 : Heap) (v : Option Value) (h : Heap) (L : List Loc) : Prop := v = some val ∧ L = [] ∧ h = h0
def own_End (val : Value) (h0 : Heap) (s : State) (R : Room) (o : Outcome) (U' : State) : Prop := ∃ v L, o = .returned v ∧ own_Q val h0 v U'.heap L ∧ FrameEnd s o U' L R.cells R.slots
section OwnRet
variable {p : Program} {l : Launch} {e : Env} {R : Room} {s : State} {m : MethodId} {args : Array Value} {below : List Frame} {meth : Method} {c : Code} {T : State}
theorem own_ret (X : Stand p l e R s m args below meth c T [] 0 0) (hx : p.tables.exec = Jvm.exec) (hlk : meth.locks = false) {pc : Nat} {Ls : Array Slot} {w : Value} {t : FieldType} {i : Instr} {rest : List Value} (hret : meth.sig.returnType = some t) (hn : narrow t w = w)
    (hi : (i = .ireturn ∧ (t = .int ∨ t = .boolean ∨ t = .byte ∨ t = .char ∨ t = .short) ∧ ∃ z, w = .int z) ∨ (i = .lreturn ∧ t = .long ∧ ∃ z, w = .long z) ∨ (i = .dreturn ∧ t = .double ∧ ∃ z, w = .double z) ∨ (i = .freturn ∧ t = .float ∧ ∃ z, w = .float z) ∨ (i = .areturn ∧ t.isReference = true ∧ w.isRef = true))
    (hd : decode c.code pc = .ok (i, 1)) {h0 : Heap} (eT : T.heap = h0) {val : Value} (hval : val = w) : own_Comes p e below (own_End val h0 s R) T (mkF m pc Ls (w :: rest)) := by
  subst hval
  obtain ⟨fs, hr, hrun, hended, hW, hsame⟩ := X.leave (v := some val) (fun h => by rw [hret] at h; cases h) hlk
  exact ⟨_, _, retOut X hx hret hn hi hd hr, hrun, hended, _, _, rfl, ⟨rfl, rfl, eT⟩, ⟨_, rfl⟩, hW, hsame.mono (Nat.zero_le _) (Nat.zero_le _)⟩
theorem own_retZ (X : Stand p l e R s m args below meth c T [] 0 0) (hx : p.tables.exec = Jvm.exec) (hlk : meth.locks = false) {pc : Nat} {Ls : Array Slot} {z : Int32} {rest : List Value} (hret : meth.sig.returnType = some .boolean) (hd : decode c.code pc = .ok (.ireturn, 1)) {h0 : Heap} (eT : T.heap = h0) (hz : z &&& 1 = z) {val : Value} (hval : val = .int z) : own_Comes p e below (own_End val h0 s R) T (mkF m pc Ls (.int z :: rest)) :=
  own_ret X hx hlk hret (by show Value.int (z &&& 1) = .int z; rw [hz]) (Or.inl ⟨rfl, by simp, z, rfl⟩) hd eT hval
theorem own_retI (X : Stand p l e R s m args below meth c T [] 0 0) (hx : p.tables.exec = Jvm.exec) (hlk : meth.locks = false) {pc : Nat} {Ls : Array Slot} {z : Int32} {rest : List Value} (hret : meth.sig.returnType = some .int) (hd : decode c.code pc = .ok (.ireturn, 1)) {h0 : Heap} (eT : T.heap = h0) {val : Value} (hval : val = .int z) : own_Comes p e below (own_End val h0 s R) T (mkF m pc Ls (.int z :: rest)) :=
  own_ret X hx hlk hret rfl (Or.inl ⟨rfl, by simp, z, rfl⟩) hd eT hval
theorem own_retA (X : Stand p l e R s m args below meth c T [] 0 0) (hx : p.tables.exec = Jvm.exec) (hlk : meth.locks = false) {pc : Nat} {Ls : Array Slot} {w : Value} {C : String} {rest : List Value} (hret : meth.sig.returnType = some (.object C)) (hd : decode c.code pc = .ok (.areturn, 1)) {h0 : Heap} (eT : T.heap = h0) (hw : w.isRef = true) {val : Value} (hval : val = w) : own_Comes p e below (own_End val h0 s R) T (mkF m pc Ls (w :: rest)) :=
  own_ret X hx hlk hret rfl (Or.inr (Or.inr (Or.inr (Or.inr ⟨rfl, rfl, hw⟩)))) hd eT hval
end OwnRet
/-! what a case says of a field of an object, as a value -/
theorem own_fld {args : Array Value} {s : State} {t : Term} {C n d : String} {a : Addr} {k : Int32} (ev : t.eval args s none [] s = some (.ref a)) (h : (Jvm.Cond.eq (.field t C n d) (.int k)).value args s none s [] = some true) : s.fieldOf? a C n d = some (.int k) := by
  obtain ⟨x, y, hx, hy, -, hk⟩ := cmp_v (Or.inl h)
  have hy2 : some (Value.int k) = some y := (Term.int_eval k).symm.trans hy
  cases hy2
  obtain ⟨z, rfl⟩ : ∃ z, x = .int z := hk
  have q : (Jvm.Cond.eq (.field t C n d) (.int k)).value args s none s [] = some (decide (z = k)) := by simp [Cond.value, hx, hy]
  obtain rfl : z = k := gotT q h
  rw [fld_at ev] at hx; exact hx
theorem d1_0 : decode prog_34_method_8_code 0 = .ok (.iload_n 1, 1) := by decide +kernel
theorem d1_1 : decode prog_34_method_8_code 1 = .ok (.aload_n 0, 1) := by decide +kernel
theorem d1_2 : decode prog_34_method_8_code 2 = .ok (.getfield 51, 3) := by decide +kernel
theorem d1_5 : decode prog_34_method_8_code 5 = .ok (.if_icmp .lt 15, 3) := by decide +kernel
theorem d1_8 : decode prog_34_method_8_code 8 = .ok (.iload_n 1, 1) := by decide +kernel
theorem d1_9 : decode prog_34_method_8_code 9 = .ok (.aload_n 0, 1) := by decide +kernel
theorem d1_10 : decode prog_34_method_8_code 10 = .ok (.getfield 55, 3) := by decide +kernel
theorem d1_13 : decode prog_34_method_8_code 13 = .ok (.if_icmp .gt 7, 3) := by decide +kernel
theorem d1_16 : decode prog_34_method_8_code 16 = .ok (.iconst 1, 1) := by decide +kernel
theorem d1_17 : decode prog_34_method_8_code 17 = .ok (.goto 4, 3) := by decide +kernel
theorem d1_20 : decode prog_34_method_8_code 20 = .ok (.iconst 0, 1) := by decide +kernel
theorem d1_21 : decode prog_34_method_8_code 21 = .ok (.ireturn, 1) := by decide +kernel
theorem pn_1 : plainName "com/example/tandemkey/tandemkey/PinSetting" = true := by first | (simp [plainName, overriddenIn]; done) | decide +kernel
theorem pd_1 : parseMethodDescriptor "(I)Z" = some ⟨[.int], some .boolean⟩ := by decide +kernel
theorem ef_1 (m : MethodId) (x0 : Addr) (x1 : Int32)  : entryFrame m #[(.ref x0), (.int x1)] 2 = mkF m 0 #[.val (.ref x0), .val (.int x1)] [] := by first | (simp [entryFrame, mkF, argsToLocals, Value.category]; done) | rfl
set_option maxRecDepth 65536 in
set_option maxHeartbeats 40000000 in
theorem rm1 (l : Launch) (Z : State) (a0 : Array Value) (hw : ∀ d ∈ tables_1, d.before a0 Z = true) (ws : List Jvm.Cond) (a1 : Addr) (k lo hi val : Int32) (h0 : Heap) (F_lo : Fld Z h0 a1 "com/example/tandemkey/tandemkey/PinSetting" "least" "I" (.int lo)) (F_hi : Fld Z h0 a1 "com/example/tandemkey/tandemkey/PinSetting" "most" "I" (.int hi)) (hv : val = if k < lo then 0 else if hi < k then 0 else 1) :
    MetFree l (⟨"com/example/tandemkey/tandemkey/PinSetting", "inRange", "(I)Z"⟩ : MethodName) (head1 (Jvm.Cond.code (⟨"com/example/tandemkey/tandemkey/PinSetting", "inRange", "(I)Z"⟩ : MethodName) prog_34_method_8_code 2 (some .boolean) :: ws) ({ frames := 0, cells := 0, slots := 0, locals := 0 } : Room)) (fun a U => a = #[(.ref a1), (.int k)] ∧ Z.Warmed39 U.vm ∧ U.heap = h0) (fun _ _ _ _ _ => True) (fun _ U o U' => ∃ v L, o = .returned v ∧ own_Q (.int val) h0 v U'.heap L ∧ FrameEnd U o U' L ({ frames := 0, cells := 0, slots := 0, locals := 0 } : Room).cells ({ frames := 0, cells := 0, slots := 0, locals := 0 } : Room).slots) := by
  refine MetFree.of_bodySF (plainFor_of_name pn_1) hisR ?_
  intro p e s m args below meth c s₁ Bd hml0 hP hK
  obtain ⟨rfl, hZ, hh⟩ := hP
  have hx := Bd.exec
  have hby := Bd.bytes
  have hml : c.maxLocals = 2 := hml0
  have hown : s.vm.findClass "com/example/tandemkey/tandemkey/PinSetting" = some m.cls := findClass_of_methodNamed Bd.named
  have hlk : meth.locks = false := BodyLoose.notSynchronized Bd
  have X0 : Stand p l e ({ frames := 0, cells := 0, slots := 0, locals := 0 } : Room) s m #[(.ref a1), (.int k)] below meth c s₁ [] 0 0 := Stand.of_body Bd
  have e0 : s₁.heap = h0 := by rw [← hh, Bd.state]; rfl
  refine own_start (Q := own_End (.int val) h0 s ({ frames := 0, cells := 0, slots := 0, locals := 0 } : Room)) (ef_1 m a1 k) ?_
  refine own_lift (T' := s₁) (f' := (mkF m 1 #[.val (.ref a1), .val (.int k)] [(.int k)])) (fun _ k => XS.iloadN X0.here hx rfl (hb hby d1_0) rfl k) ?_
  refine own_lift (T' := s₁) (f' := (mkF m 2 #[.val (.ref a1), .val (.int k)] [(.ref a1), (.int k)])) (fun _ k => XS.aloadN X0.here hx rfl (hb hby d1_1) rfl rfl k) ?_
  obtain ⟨T52, X52, e52, st52⟩ := getF X0 hx hZ hown (host := "") (Or.inl (hw _ (List.mem_of_getElem? (i := 8) rfl))) Via.refl e0 F_lo (g := (mkF m 2 #[.val (.ref a1), .val (.int k)] [(.ref a1), (.int k)])) rfl rfl (hb hby d1_2)
  refine own_lift (T' := T52) (f' := (mkF m 5 #[.val (.ref a1), .val (.int k)] [(.int lo), (.int k)])) (st52) ?_
  by_cases h1 : k < lo
  · refine own_lift (T' := T52) (f' := (mkF m 20 #[.val (.ref a1), .val (.int k)] [])) (fun _ k => XS.icmpYes X52.here hx rfl (pc0 := 5) (pc' := 20) rfl (hb hby d1_5) rfl (tlt h1).1 (by decide) (by decide) k) ?_
    refine own_lift (T' := T52) (f' := (mkF m 21 #[.val (.ref a1), .val (.int k)] [(.int (0 : Int32))])) (fun _ k => XS.iconst X52.here hx rfl (hb hby d1_20) k) ?_
    exact own_retZ X52 hx hlk Bd.returns (hb hby d1_21) e52 (by decide) (by simp [hv, h1])
  · refine own_lift (T' := T52) (f' := (mkF m 8 #[.val (.ref a1), .val (.int k)] [])) (fun _ k => XS.icmpNo X52.here hx rfl (hb hby d1_5) rfl (flt h1).1 k) ?_
    refine own_lift (T' := T52) (f' := (mkF m 9 #[.val (.ref a1), .val (.int k)] [(.int k)])) (fun _ k => XS.iloadN X52.here hx rfl (hb hby d1_8) rfl k) ?_
    refine own_lift (T' := T52) (f' := (mkF m 10 #[.val (.ref a1), .val (.int k)] [(.ref a1), (.int k)])) (fun _ k => XS.aloadN X52.here hx rfl (hb hby d1_9) rfl rfl k) ?_
    obtain ⟨T53, X53, e53, st53⟩ := getF X52 hx hZ hown (host := "") (Or.inl (hw _ (List.mem_of_getElem? (i := 10) rfl))) Via.refl e52 F_hi (g := (mkF m 10 #[.val (.ref a1), .val (.int k)] [(.ref a1), (.int k)])) rfl rfl (hb hby d1_10)
    refine own_lift (T' := T53) (f' := (mkF m 13 #[.val (.ref a1), .val (.int k)] [(.int hi), (.int k)])) (st53) ?_
    by_cases h2 : hi < k
    · refine own_lift (T' := T53) (f' := (mkF m 20 #[.val (.ref a1), .val (.int k)] [])) (fun _ k => XS.icmpYes X53.here hx rfl (pc0 := 13) (pc' := 20) rfl (hb hby d1_13) rfl (tlt h2).2.2.1 (by decide) (by decide) k) ?_
      refine own_lift (T' := T53) (f' := (mkF m 21 #[.val (.ref a1), .val (.int k)] [(.int (0 : Int32))])) (fun _ k => XS.iconst X53.here hx rfl (hb hby d1_20) k) ?_
      exact own_retZ X53 hx hlk Bd.returns (hb hby d1_21) e53 (by decide) (by simp [hv, h1, h2])
    · refine own_lift (T' := T53) (f' := (mkF m 16 #[.val (.ref a1), .val (.int k)] [])) (fun _ k => XS.icmpNo X53.here hx rfl (hb hby d1_13) rfl (flt h2).2.2.1 k) ?_
      refine own_lift (T' := T53) (f' := (mkF m 17 #[.val (.ref a1), .val (.int k)] [(.int (1 : Int32))])) (fun _ k => XS.iconst X53.here hx rfl (hb hby d1_16) k) ?_
      refine own_lift (T' := T53) (f' := (mkF m 21 #[.val (.ref a1), .val (.int k)] [(.int (1 : Int32))])) (fun _ k => XS.goto X53.here hx rfl (pc0 := 17) (pc' := 21) rfl (hb hby d1_17) (by decide) (by decide) k) ?_
      exact own_retZ X53 hx hlk Bd.returns (hb hby d1_21) e53 (by decide) (by simp [hv, h1, h2])
theorem pn_0 : plainName "com/example/tandemkey/tandemkey/PinSettingInRangePinLaw" = true := by first | (simp [plainName, overriddenIn]; done) | decide +kernel
theorem pd_0 : parseMethodDescriptor "(III)Z" = some ⟨[.int, .int, .int], some .boolean⟩ := by decide +kernel
theorem ef_0 (m : MethodId) (x0 : Int32) (x1 : Int32) (x2 : Int32)  : entryFrame m #[(.int x0), (.int x1), (.int x2)] maxLocals = mkF m 0 #[.val (.int x0), .val (.int x1), .val (.int x2), .unset, .unset, .unset, .unset, .unset, .unset, .unset] [] := by first | (simp [entryFrame, mkF, argsToLocals, Value.category, maxLocals]; done) | rfl
set_option maxRecDepth 65536 in
set_option maxHeartbeats 40000000 in
theorem rm0 (l : Launch) (Z : State) (a0 : Array Value) (hw : ∀ d ∈ tables_1, d.before a0 Z = true) (ws : List Jvm.Cond) (p1 p2 p3 : Int32) (c0 c1 c2 c3 c4 c5 c6 c7 : Addr) (h0 : Heap) (S_MINIMUM_PIN_LENGTH : Sta Z h0 "com/example/tandemkey/tandemkey/PinSetting" "MINIMUM_PIN_LENGTH" "Lcom/example/tandemkey/tandemkey/PinSetting;" (.ref c0)) (S_MAXIMUM_PIN_LENGTH : Sta Z h0 "com/example/tandemkey/tandemkey/PinSetting" "MAXIMUM_PIN_LENGTH" "Lcom/example/tandemkey/tandemkey/PinSetting;" (.ref c1)) (S_DIGITS : Sta Z h0 "com/example/tandemkey/tandemkey/PinSetting" "DIGITS" "Lcom/example/tandemkey/tandemkey/PinSetting;" (.ref c2)) (S_LOWERCASE_LETTERS : Sta Z h0 "com/example/tandemkey/tandemkey/PinSetting" "LOWERCASE_LETTERS" "Lcom/example/tandemkey/tandemkey/PinSetting;" (.ref c3)) (S_UPPERCASE_LETTERS : Sta Z h0 "com/example/tandemkey/tandemkey/PinSetting" "UPPERCASE_LETTERS" "Lcom/example/tandemkey/tandemkey/PinSetting;" (.ref c4)) (S_SPECIAL_CHARACTERS : Sta Z h0 "com/example/tandemkey/tandemkey/PinSetting" "SPECIAL_CHARACTERS" "Lcom/example/tandemkey/tandemkey/PinSetting;" (.ref c5)) (S_HISTORY : Sta Z h0 "com/example/tandemkey/tandemkey/PinSetting" "HISTORY" "Lcom/example/tandemkey/tandemkey/PinSetting;" (.ref c6)) (S_EXPIRATION : Sta Z h0 "com/example/tandemkey/tandemkey/PinSetting" "EXPIRATION" "Lcom/example/tandemkey/tandemkey/PinSetting;" (.ref c7)) (E_c0 : Exa Z h0 c0 "com/example/tandemkey/tandemkey/PinSetting") (E_c1 : Exa Z h0 c1 "com/example/tandemkey/tandemkey/PinSetting") (E_c2 : Exa Z h0 c2 "com/example/tandemkey/tandemkey/PinSetting") (E_c3 : Exa Z h0 c3 "com/example/tandemkey/tandemkey/PinSetting") (E_c4 : Exa Z h0 c4 "com/example/tandemkey/tandemkey/PinSetting") (E_c5 : Exa Z h0 c5 "com/example/tandemkey/tandemkey/PinSetting") (E_c6 : Exa Z h0 c6 "com/example/tandemkey/tandemkey/PinSetting") (E_c7 : Exa Z h0 c7 "com/example/tandemkey/tandemkey/PinSetting") (FL_c0 : Fld Z h0 c0 "com/example/tandemkey/tandemkey/PinSetting" "least" "I" (.int (4 : Int32))) (FM_c0 : Fld Z h0 c0 "com/example/tandemkey/tandemkey/PinSetting" "most" "I" (.int (127 : Int32))) (FL_c1 : Fld Z h0 c1 "com/example/tandemkey/tandemkey/PinSetting" "least" "I" (.int (4 : Int32))) (FM_c1 : Fld Z h0 c1 "com/example/tandemkey/tandemkey/PinSetting" "most" "I" (.int (127 : Int32))) (FL_c2 : Fld Z h0 c2 "com/example/tandemkey/tandemkey/PinSetting" "least" "I" (.int (0 : Int32))) (FM_c2 : Fld Z h0 c2 "com/example/tandemkey/tandemkey/PinSetting" "most" "I" (.int (2 : Int32))) (FL_c3 : Fld Z h0 c3 "com/example/tandemkey/tandemkey/PinSetting" "least" "I" (.int (0 : Int32))) (FM_c3 : Fld Z h0 c3 "com/example/tandemkey/tandemkey/PinSetting" "most" "I" (.int (2 : Int32))) (FL_c4 : Fld Z h0 c4 "com/example/tandemkey/tandemkey/PinSetting" "least" "I" (.int (0 : Int32))) (FM_c4 : Fld Z h0 c4 "com/example/tandemkey/tandemkey/PinSetting" "most" "I" (.int (2 : Int32))) (FL_c5 : Fld Z h0 c5 "com/example/tandemkey/tandemkey/PinSetting" "least" "I" (.int (0 : Int32))) (FM_c5 : Fld Z h0 c5 "com/example/tandemkey/tandemkey/PinSetting" "most" "I" (.int (2 : Int32))) (FL_c6 : Fld Z h0 c6 "com/example/tandemkey/tandemkey/PinSetting" "least" "I" (.int (0 : Int32))) (FM_c6 : Fld Z h0 c6 "com/example/tandemkey/tandemkey/PinSetting" "most" "I" (.int (50 : Int32))) (FL_c7 : Fld Z h0 c7 "com/example/tandemkey/tandemkey/PinSetting" "least" "I" (.int (0 : Int32))) (FM_c7 : Fld Z h0 c7 "com/example/tandemkey/tandemkey/PinSetting" "most" "I" (.int (730 : Int32))) :
    MetFree l x (head1 (Jvm.Cond.code x code maxLocals ret :: ws) room_1) (fun a U => a = #[(.int p1), (.int p2), (.int p3)] ∧ Z.Warmed39 U.vm ∧ U.heap = h0) (fun _ _ _ _ _ => True) (fun _ U o U' => ∃ v L, o = .returned v ∧ own_Q (.int 1) h0 v U'.heap L ∧ FrameEnd U o U' L room_1.cells room_1.slots) := by
  refine MetFree.of_bodySF (plainFor_of_name pn_0) hisR ?_
  intro p e s m args below meth c s₁ Bd hml0 hP hK
  obtain ⟨rfl, hZ, hh⟩ := hP
  have hx := Bd.exec
  have hby := Bd.bytes
  have hml : c.maxLocals = 10 := hml0
  have hown : s.vm.findClass "com/example/tandemkey/tandemkey/PinSettingInRangePinLaw" = some m.cls := findClass_of_methodNamed Bd.named
  have hlk : meth.locks = false := BodyLoose.notSynchronized Bd
  have X0 : Stand p l e room_1 s m #[(.int p1), (.int p2), (.int p3)] below meth c s₁ [] 0 0 := Stand.of_body Bd
  have e0 : s₁.heap = h0 := by rw [← hh, Bd.state]; rfl
  refine own_start (Q := own_End (.int 1) h0 s room_1) (ef_0 m p1 p2 p3) ?_
  have J196 : ∀ (T : State) (w : Addr) (lo hi va : Int32), Stand p l e room_1 s m #[(.int p1), (.int p2), (.int p3)] below meth c T [] 0 0 → T.heap = h0 → Exa Z h0 w "com/example/tandemkey/tandemkey/PinSetting" → Fld Z h0 w "com/example/tandemkey/tandemkey/PinSetting" "least" "I" (.int lo) → Fld Z h0 w "com/example/tandemkey/tandemkey/PinSetting" "most" "I" (.int hi) → own_Comes p e below (own_End (.int 1) h0 s room_1) T (mkF m 196 #[.val (.int p1), .val (.int p2), .val (.int p3), .val (.int (p1 &&& (7 : Int32))), .val (.ref w), .val (.int lo), .val (.int hi), .val (.int (p3 &&& (3 : Int32))), .val (.int va), .unset] []) := by
    intro T w lo hi va X E Ew FL FM
    refine own_lift (T' := T) (f' := (mkF m 198 #[.val (.int p1), .val (.int p2), .val (.int p3), .val (.int (p1 &&& (7 : Int32))), .val (.ref w), .val (.int lo), .val (.int hi), .val (.int (p3 &&& (3 : Int32))), .val (.int va), .unset] [(.int va)])) (fun _ k => XS.iload X.here hx rfl (hb hby at_196) rfl k) ?_
    refine own_lift (T' := T) (f' := (mkF m 200 #[.val (.int p1), .val (.int p2), .val (.int p3), .val (.int (p1 &&& (7 : Int32))), .val (.ref w), .val (.int lo), .val (.int hi), .val (.int (p3 &&& (3 : Int32))), .val (.int va), .unset] [(.int lo), (.int va)])) (fun _ k => XS.iload X.here hx rfl (hb hby at_198) rfl k) ?_
    by_cases h1 : va < lo
    · refine own_lift (T' := T) (f' := (mkF m 214 #[.val (.int p1), .val (.int p2), .val (.int p3), .val (.int (p1 &&& (7 : Int32))), .val (.ref w), .val (.int lo), .val (.int hi), .val (.int (p3 &&& (3 : Int32))), .val (.int va), .unset] [])) (fun _ k => XS.icmpYes X.here hx rfl (pc0 := 200) (pc' := 214) rfl (hb hby at_200) rfl (tlt h1).1 (by decide) (by decide) k) ?_
      refine own_lift (T' := T) (f' := (mkF m 215 #[.val (.int p1), .val (.int p2), .val (.int p3), .val (.int (p1 &&& (7 : Int32))), .val (.ref w), .val (.int lo), .val (.int hi), .val (.int (p3 &&& (3 : Int32))), .val (.int va), .unset] [(.int (0 : Int32))])) (fun _ k => XS.iconst X.here hx rfl (hb hby at_214) k) ?_
      refine own_lift (T' := T) (f' := (mkF m 217 #[.val (.int p1), .val (.int p2), .val (.int p3), .val (.int (p1 &&& (7 : Int32))), .val (.ref w), .val (.int lo), .val (.int hi), .val (.int (p3 &&& (3 : Int32))), .val (.int va), .val (.int (0 : Int32))] [])) (fun _ k => XS.istore X.here hx rfl (hb hby at_215) rfl (l' := #[.val (.int p1), .val (.int p2), .val (.int p3), .val (.int (p1 &&& (7 : Int32))), .val (.ref w), .val (.int lo), .val (.int hi), .val (.int (p3 &&& (3 : Int32))), .val (.int va), .val (.int (0 : Int32))]) rfl k) ?_
      refine own_lift (T' := T) (f' := (mkF m 219 #[.val (.int p1), .val (.int p2), .val (.int p3), .val (.int (p1 &&& (7 : Int32))), .val (.ref w), .val (.int lo), .val (.int hi), .val (.int (p3 &&& (3 : Int32))), .val (.int va), .val (.int (0 : Int32))] [(.ref w)])) (fun _ k => XS.aload X.here hx rfl (hb hby at_217) rfl rfl k) ?_
      refine own_lift (T' := T) (f' := (mkF m 221 #[.val (.int p1), .val (.int p2), .val (.int p3), .val (.int (p1 &&& (7 : Int32))), .val (.ref w), .val (.int lo), .val (.int hi), .val (.int (p3 &&& (3 : Int32))), .val (.int va), .val (.int (0 : Int32))] [(.int va), (.ref w)])) (fun _ k => XS.iload X.here hx rfl (hb hby at_219) rfl k) ?_
      obtain ⟨cq54, kq54, q54a, q54b, q54c⟩ := isOf hZ E Ew
      obtain ⟨_, _, ⟨T54, L54, k54, n54⟩, -, Y54, ⟨Lc54, hQ54, l54, y54, z54⟩, st54⟩ := X.virtualBack hx (y := (⟨"com/example/tandemkey/tandemkey/PinSetting", "inRange", "(I)Z"⟩ : MethodName)) (z := (⟨"com/example/tandemkey/tandemkey/PinSetting", "inRange", "(I)Z"⟩ : MethodName)) hown (mvT hZ (hw _ (List.mem_of_getElem? (i := 3) rfl))) (mvT hZ (hw _ (List.mem_of_getElem? (i := 4) rfl))) (notFace_of_selects (args := #[]) (mvT hZ (hw _ (List.mem_of_getElem? (i := 6) rfl)))) (mvT hZ (hw _ (List.mem_of_getElem? (i := 6) rfl))) (mvT hZ (hw _ (List.mem_of_getElem? (i := 5) rfl))) (by decide) (backOf (W := 0) (rm1 l Z a0 hw [] w va lo hi (0 : Int32) h0 FL FM (by simp [h1])) hZ (hw _ (List.mem_of_getElem? (i := 7) rfl)) (hw _ (List.mem_of_getElem? (i := 1) rfl)) (by decide) (by decide)) q54a q54c (g := (mkF m 221 #[.val (.int p1), .val (.int p2), .val (.int p3), .val (.int (p1 &&& (7 : Int32))), .val (.ref w), .val (.int lo), .val (.int hi), .val (.int (p3 &&& (3 : Int32))), .val (.int va), .val (.int (0 : Int32))] [(.int va), (.ref w)])) rfl (by rw [hml]; rfl) (Steps.refl _) (argsL := [(.int va)]) (rest := []) (lenOf pd_1 rfl) rfl (by show 2 * 0 + _ ≤ _; exact Nat.le_of_eq rfl) (hb hby at_221) (fun _ _ => ⟨rfl, E, (by decide : 0 + 0 ≤ _), (by decide : 0 + 0 ≤ _)⟩)
      dsimp only [Pt.U, Pt.locs, Pt.cells, Pt.slots] at Y54 l54 y54 z54 st54 hQ54
      subst l54 y54 z54
      obtain ⟨rfl, rfl, e54⟩ := hQ54
      have X54 : Stand p l e room_1 s m #[(.int p1), (.int p2), (.int p3)] below meth c T54 [] 0 0 := Y54
      refine own_lift (T' := T54) (f' := (mkF m 224 #[.val (.int p1), .val (.int p2), .val (.int p3), .val (.int (p1 &&& (7 : Int32))), .val (.ref w), .val (.int lo), .val (.int hi), .val (.int (p3 &&& (3 : Int32))), .val (.int va), .val (.int (0 : Int32))] [(.int (0 : Int32))])) (fun _ k => st54.trans k) ?_
      refine own_lift (T' := T54) (f' := (mkF m 226 #[.val (.int p1), .val (.int p2), .val (.int p3), .val (.int (p1 &&& (7 : Int32))), .val (.ref w), .val (.int lo), .val (.int hi), .val (.int (p3 &&& (3 : Int32))), .val (.int va), .val (.int (0 : Int32))] [(.int (0 : Int32)), (.int (0 : Int32))])) (fun _ k => XS.iload X54.here hx rfl (hb hby at_224) rfl k) ?_
      refine own_lift (T' := T54) (f' := (mkF m 229 #[.val (.int p1), .val (.int p2), .val (.int p3), .val (.int (p1 &&& (7 : Int32))), .val (.ref w), .val (.int lo), .val (.int hi), .val (.int (p3 &&& (3 : Int32))), .val (.int va), .val (.int (0 : Int32))] [])) (fun _ k => XS.icmpNo X54.here hx rfl (hb hby at_226) rfl (teq rfl).2 k) ?_
      refine own_lift (T' := T54) (f' := (mkF m 230 #[.val (.int p1), .val (.int p2), .val (.int p3), .val (.int (p1 &&& (7 : Int32))), .val (.ref w), .val (.int lo), .val (.int hi), .val (.int (p3 &&& (3 : Int32))), .val (.int va), .val (.int (0 : Int32))] [(.int (1 : Int32))])) (fun _ k => XS.iconst X54.here hx rfl (hb hby at_229) k) ?_
      refine own_lift (T' := T54) (f' := (mkF m 234 #[.val (.int p1), .val (.int p2), .val (.int p3), .val (.int (p1 &&& (7 : Int32))), .val (.ref w), .val (.int lo), .val (.int hi), .val (.int (p3 &&& (3 : Int32))), .val (.int va), .val (.int (0 : Int32))] [(.int (1 : Int32))])) (fun _ k => XS.goto X54.here hx rfl (pc0 := 230) (pc' := 234) rfl (hb hby at_230) (by decide) (by decide) k) ?_
      exact own_retZ X54 hx hlk Bd.returns (hb hby at_234) e54 (by decide) rfl
    · refine own_lift (T' := T) (f' := (mkF m 203 #[.val (.int p1), .val (.int p2), .val (.int p3), .val (.int (p1 &&& (7 : Int32))), .val (.ref w), .val (.int lo), .val (.int hi), .val (.int (p3 &&& (3 : Int32))), .val (.int va), .unset] [])) (fun _ k => XS.icmpNo X.here hx rfl (hb hby at_200) rfl (flt h1).1 k) ?_
      refine own_lift (T' := T) (f' := (mkF m 205 #[.val (.int p1), .val (.int p2), .val (.int p3), .val (.int (p1 &&& (7 : Int32))), .val (.ref w), .val (.int lo), .val (.int hi), .val (.int (p3 &&& (3 : Int32))), .val (.int va), .unset] [(.int va)])) (fun _ k => XS.iload X.here hx rfl (hb hby at_203) rfl k) ?_
      refine own_lift (T' := T) (f' := (mkF m 207 #[.val (.int p1), .val (.int p2), .val (.int p3), .val (.int (p1 &&& (7 : Int32))), .val (.ref w), .val (.int lo), .val (.int hi), .val (.int (p3 &&& (3 : Int32))), .val (.int va), .unset] [(.int hi), (.int va)])) (fun _ k => XS.iload X.here hx rfl (hb hby at_205) rfl k) ?_
      by_cases h2 : hi < va
      · refine own_lift (T' := T) (f' := (mkF m 214 #[.val (.int p1), .val (.int p2), .val (.int p3), .val (.int (p1 &&& (7 : Int32))), .val (.ref w), .val (.int lo), .val (.int hi), .val (.int (p3 &&& (3 : Int32))), .val (.int va), .unset] [])) (fun _ k => XS.icmpYes X.here hx rfl (pc0 := 207) (pc' := 214) rfl (hb hby at_207) rfl (tlt h2).2.2.1 (by decide) (by decide) k) ?_
        refine own_lift (T' := T) (f' := (mkF m 215 #[.val (.int p1), .val (.int p2), .val (.int p3), .val (.int (p1 &&& (7 : Int32))), .val (.ref w), .val (.int lo), .val (.int hi), .val (.int (p3 &&& (3 : Int32))), .val (.int va), .unset] [(.int (0 : Int32))])) (fun _ k => XS.iconst X.here hx rfl (hb hby at_214) k) ?_
        refine own_lift (T' := T) (f' := (mkF m 217 #[.val (.int p1), .val (.int p2), .val (.int p3), .val (.int (p1 &&& (7 : Int32))), .val (.ref w), .val (.int lo), .val (.int hi), .val (.int (p3 &&& (3 : Int32))), .val (.int va), .val (.int (0 : Int32))] [])) (fun _ k => XS.istore X.here hx rfl (hb hby at_215) rfl (l' := #[.val (.int p1), .val (.int p2), .val (.int p3), .val (.int (p1 &&& (7 : Int32))), .val (.ref w), .val (.int lo), .val (.int hi), .val (.int (p3 &&& (3 : Int32))), .val (.int va), .val (.int (0 : Int32))]) rfl k) ?_
        refine own_lift (T' := T) (f' := (mkF m 219 #[.val (.int p1), .val (.int p2), .val (.int p3), .val (.int (p1 &&& (7 : Int32))), .val (.ref w), .val (.int lo), .val (.int hi), .val (.int (p3 &&& (3 : Int32))), .val (.int va), .val (.int (0 : Int32))] [(.ref w)])) (fun _ k => XS.aload X.here hx rfl (hb hby at_217) rfl rfl k) ?_
        refine own_lift (T' := T) (f' := (mkF m 221 #[.val (.int p1), .val (.int p2), .val (.int p3), .val (.int (p1 &&& (7 : Int32))), .val (.ref w), .val (.int lo), .val (.int hi), .val (.int (p3 &&& (3 : Int32))), .val (.int va), .val (.int (0 : Int32))] [(.int va), (.ref w)])) (fun _ k => XS.iload X.here hx rfl (hb hby at_219) rfl k) ?_
        obtain ⟨cq55, kq55, q55a, q55b, q55c⟩ := isOf hZ E Ew
        obtain ⟨_, _, ⟨T55, L55, k55, n55⟩, -, Y55, ⟨Lc55, hQ55, l55, y55, z55⟩, st55⟩ := X.virtualBack hx (y := (⟨"com/example/tandemkey/tandemkey/PinSetting", "inRange", "(I)Z"⟩ : MethodName)) (z := (⟨"com/example/tandemkey/tandemkey/PinSetting", "inRange", "(I)Z"⟩ : MethodName)) hown (mvT hZ (hw _ (List.mem_of_getElem? (i := 3) rfl))) (mvT hZ (hw _ (List.mem_of_getElem? (i := 4) rfl))) (notFace_of_selects (args := #[]) (mvT hZ (hw _ (List.mem_of_getElem? (i := 6) rfl)))) (mvT hZ (hw _ (List.mem_of_getElem? (i := 6) rfl))) (mvT hZ (hw _ (List.mem_of_getElem? (i := 5) rfl))) (by decide) (backOf (W := 0) (rm1 l Z a0 hw [] w va lo hi (0 : Int32) h0 FL FM (by simp [h1, h2])) hZ (hw _ (List.mem_of_getElem? (i := 7) rfl)) (hw _ (List.mem_of_getElem? (i := 1) rfl)) (by decide) (by decide)) q55a q55c (g := (mkF m 221 #[.val (.int p1), .val (.int p2), .val (.int p3), .val (.int (p1 &&& (7 : Int32))), .val (.ref w), .val (.int lo), .val (.int hi), .val (.int (p3 &&& (3 : Int32))), .val (.int va), .val (.int (0 : Int32))] [(.int va), (.ref w)])) rfl (by rw [hml]; rfl) (Steps.refl _) (argsL := [(.int va)]) (rest := []) (lenOf pd_1 rfl) rfl (by show 2 * 0 + _ ≤ _; exact Nat.le_of_eq rfl) (hb hby at_221) (fun _ _ => ⟨rfl, E, (by decide : 0 + 0 ≤ _), (by decide : 0 + 0 ≤ _)⟩)
        dsimp only [Pt.U, Pt.locs, Pt.cells, Pt.slots] at Y55 l55 y55 z55 st55 hQ55
        subst l55 y55 z55
        obtain ⟨rfl, rfl, e55⟩ := hQ55
        have X55 : Stand p l e room_1 s m #[(.int p1), (.int p2), (.int p3)] below meth c T55 [] 0 0 := Y55
        refine own_lift (T' := T55) (f' := (mkF m 224 #[.val (.int p1), .val (.int p2), .val (.int p3), .val (.int (p1 &&& (7 : Int32))), .val (.ref w), .val (.int lo), .val (.int hi), .val (.int (p3 &&& (3 : Int32))), .val (.int va), .val (.int (0 : Int32))] [(.int (0 : Int32))])) (fun _ k => st55.trans k) ?_
        refine own_lift (T' := T55) (f' := (mkF m 226 #[.val (.int p1), .val (.int p2), .val (.int p3), .val (.int (p1 &&& (7 : Int32))), .val (.ref w), .val (.int lo), .val (.int hi), .val (.int (p3 &&& (3 : Int32))), .val (.int va), .val (.int (0 : Int32))] [(.int (0 : Int32)), (.int (0 : Int32))])) (fun _ k => XS.iload X55.here hx rfl (hb hby at_224) rfl k) ?_
        refine own_lift (T' := T55) (f' := (mkF m 229 #[.val (.int p1), .val (.int p2), .val (.int p3), .val (.int (p1 &&& (7 : Int32))), .val (.ref w), .val (.int lo), .val (.int hi), .val (.int (p3 &&& (3 : Int32))), .val (.int va), .val (.int (0 : Int32))] [])) (fun _ k => XS.icmpNo X55.here hx rfl (hb hby at_226) rfl (teq rfl).2 k) ?_
        refine own_lift (T' := T55) (f' := (mkF m 230 #[.val (.int p1), .val (.int p2), .val (.int p3), .val (.int (p1 &&& (7 : Int32))), .val (.ref w), .val (.int lo), .val (.int hi), .val (.int (p3 &&& (3 : Int32))), .val (.int va), .val (.int (0 : Int32))] [(.int (1 : Int32))])) (fun _ k => XS.iconst X55.here hx rfl (hb hby at_229) k) ?_
        refine own_lift (T' := T55) (f' := (mkF m 234 #[.val (.int p1), .val (.int p2), .val (.int p3), .val (.int (p1 &&& (7 : Int32))), .val (.ref w), .val (.int lo), .val (.int hi), .val (.int (p3 &&& (3 : Int32))), .val (.int va), .val (.int (0 : Int32))] [(.int (1 : Int32))])) (fun _ k => XS.goto X55.here hx rfl (pc0 := 230) (pc' := 234) rfl (hb hby at_230) (by decide) (by decide) k) ?_
        exact own_retZ X55 hx hlk Bd.returns (hb hby at_234) e55 (by decide) rfl
      · refine own_lift (T' := T) (f' := (mkF m 210 #[.val (.int p1), .val (.int p2), .val (.int p3), .val (.int (p1 &&& (7 : Int32))), .val (.ref w), .val (.int lo), .val (.int hi), .val (.int (p3 &&& (3 : Int32))), .val (.int va), .unset] [])) (fun _ k => XS.icmpNo X.here hx rfl (hb hby at_207) rfl (flt h2).2.2.1 k) ?_
        refine own_lift (T' := T) (f' := (mkF m 211 #[.val (.int p1), .val (.int p2), .val (.int p3), .val (.int (p1 &&& (7 : Int32))), .val (.ref w), .val (.int lo), .val (.int hi), .val (.int (p3 &&& (3 : Int32))), .val (.int va), .unset] [(.int (1 : Int32))])) (fun _ k => XS.iconst X.here hx rfl (hb hby at_210) k) ?_
        refine own_lift (T' := T) (f' := (mkF m 215 #[.val (.int p1), .val (.int p2), .val (.int p3), .val (.int (p1 &&& (7 : Int32))), .val (.ref w), .val (.int lo), .val (.int hi), .val (.int (p3 &&& (3 : Int32))), .val (.int va), .unset] [(.int (1 : Int32))])) (fun _ k => XS.goto X.here hx rfl (pc0 := 211) (pc' := 215) rfl (hb hby at_211) (by decide) (by decide) k) ?_
        refine own_lift (T' := T) (f' := (mkF m 217 #[.val (.int p1), .val (.int p2), .val (.int p3), .val (.int (p1 &&& (7 : Int32))), .val (.ref w), .val (.int lo), .val (.int hi), .val (.int (p3 &&& (3 : Int32))), .val (.int va), .val (.int (1 : Int32))] [])) (fun _ k => XS.istore X.here hx rfl (hb hby at_215) rfl (l' := #[.val (.int p1), .val (.int p2), .val (.int p3), .val (.int (p1 &&& (7 : Int32))), .val (.ref w), .val (.int lo), .val (.int hi), .val (.int (p3 &&& (3 : Int32))), .val (.int va), .val (.int (1 : Int32))]) rfl k) ?_
        refine own_lift (T' := T) (f' := (mkF m 219 #[.val (.int p1), .val (.int p2), .val (.int p3), .val (.int (p1 &&& (7 : Int32))), .val (.ref w), .val (.int lo), .val (.int hi), .val (.int (p3 &&& (3 : Int32))), .val (.int va), .val (.int (1 : Int32))] [(.ref w)])) (fun _ k => XS.aload X.here hx rfl (hb hby at_217) rfl rfl k) ?_
        refine own_lift (T' := T) (f' := (mkF m 221 #[.val (.int p1), .val (.int p2), .val (.int p3), .val (.int (p1 &&& (7 : Int32))), .val (.ref w), .val (.int lo), .val (.int hi), .val (.int (p3 &&& (3 : Int32))), .val (.int va), .val (.int (1 : Int32))] [(.int va), (.ref w)])) (fun _ k => XS.iload X.here hx rfl (hb hby at_219) rfl k) ?_
        obtain ⟨cq56, kq56, q56a, q56b, q56c⟩ := isOf hZ E Ew
        obtain ⟨_, _, ⟨T56, L56, k56, n56⟩, -, Y56, ⟨Lc56, hQ56, l56, y56, z56⟩, st56⟩ := X.virtualBack hx (y := (⟨"com/example/tandemkey/tandemkey/PinSetting", "inRange", "(I)Z"⟩ : MethodName)) (z := (⟨"com/example/tandemkey/tandemkey/PinSetting", "inRange", "(I)Z"⟩ : MethodName)) hown (mvT hZ (hw _ (List.mem_of_getElem? (i := 3) rfl))) (mvT hZ (hw _ (List.mem_of_getElem? (i := 4) rfl))) (notFace_of_selects (args := #[]) (mvT hZ (hw _ (List.mem_of_getElem? (i := 6) rfl)))) (mvT hZ (hw _ (List.mem_of_getElem? (i := 6) rfl))) (mvT hZ (hw _ (List.mem_of_getElem? (i := 5) rfl))) (by decide) (backOf (W := 0) (rm1 l Z a0 hw [] w va lo hi (1 : Int32) h0 FL FM (by simp [h1, h2])) hZ (hw _ (List.mem_of_getElem? (i := 7) rfl)) (hw _ (List.mem_of_getElem? (i := 1) rfl)) (by decide) (by decide)) q56a q56c (g := (mkF m 221 #[.val (.int p1), .val (.int p2), .val (.int p3), .val (.int (p1 &&& (7 : Int32))), .val (.ref w), .val (.int lo), .val (.int hi), .val (.int (p3 &&& (3 : Int32))), .val (.int va), .val (.int (1 : Int32))] [(.int va), (.ref w)])) rfl (by rw [hml]; rfl) (Steps.refl _) (argsL := [(.int va)]) (rest := []) (lenOf pd_1 rfl) rfl (by show 2 * 0 + _ ≤ _; exact Nat.le_of_eq rfl) (hb hby at_221) (fun _ _ => ⟨rfl, E, (by decide : 0 + 0 ≤ _), (by decide : 0 + 0 ≤ _)⟩)
        dsimp only [Pt.U, Pt.locs, Pt.cells, Pt.slots] at Y56 l56 y56 z56 st56 hQ56
        subst l56 y56 z56
        obtain ⟨rfl, rfl, e56⟩ := hQ56
        have X56 : Stand p l e room_1 s m #[(.int p1), (.int p2), (.int p3)] below meth c T56 [] 0 0 := Y56
        refine own_lift (T' := T56) (f' := (mkF m 224 #[.val (.int p1), .val (.int p2), .val (.int p3), .val (.int (p1 &&& (7 : Int32))), .val (.ref w), .val (.int lo), .val (.int hi), .val (.int (p3 &&& (3 : Int32))), .val (.int va), .val (.int (1 : Int32))] [(.int (1 : Int32))])) (fun _ k => st56.trans k) ?_
        refine own_lift (T' := T56) (f' := (mkF m 226 #[.val (.int p1), .val (.int p2), .val (.int p3), .val (.int (p1 &&& (7 : Int32))), .val (.ref w), .val (.int lo), .val (.int hi), .val (.int (p3 &&& (3 : Int32))), .val (.int va), .val (.int (1 : Int32))] [(.int (1 : Int32)), (.int (1 : Int32))])) (fun _ k => XS.iload X56.here hx rfl (hb hby at_224) rfl k) ?_
        refine own_lift (T' := T56) (f' := (mkF m 229 #[.val (.int p1), .val (.int p2), .val (.int p3), .val (.int (p1 &&& (7 : Int32))), .val (.ref w), .val (.int lo), .val (.int hi), .val (.int (p3 &&& (3 : Int32))), .val (.int va), .val (.int (1 : Int32))] [])) (fun _ k => XS.icmpNo X56.here hx rfl (hb hby at_226) rfl (teq rfl).2 k) ?_
        refine own_lift (T' := T56) (f' := (mkF m 230 #[.val (.int p1), .val (.int p2), .val (.int p3), .val (.int (p1 &&& (7 : Int32))), .val (.ref w), .val (.int lo), .val (.int hi), .val (.int (p3 &&& (3 : Int32))), .val (.int va), .val (.int (1 : Int32))] [(.int (1 : Int32))])) (fun _ k => XS.iconst X56.here hx rfl (hb hby at_229) k) ?_
        refine own_lift (T' := T56) (f' := (mkF m 234 #[.val (.int p1), .val (.int p2), .val (.int p3), .val (.int (p1 &&& (7 : Int32))), .val (.ref w), .val (.int lo), .val (.int hi), .val (.int (p3 &&& (3 : Int32))), .val (.int va), .val (.int (1 : Int32))] [(.int (1 : Int32))])) (fun _ k => XS.goto X56.here hx rfl (pc0 := 230) (pc' := 234) rfl (hb hby at_230) (by decide) (by decide) k) ?_
        exact own_retZ X56 hx hlk Bd.returns (hb hby at_234) e56 (by decide) rfl
  have J154 : ∀ (T : State) (w : Addr) (lo hi : Int32), Stand p l e room_1 s m #[(.int p1), (.int p2), (.int p3)] below meth c T [] 0 0 → T.heap = h0 → Exa Z h0 w "com/example/tandemkey/tandemkey/PinSetting" → Fld Z h0 w "com/example/tandemkey/tandemkey/PinSetting" "least" "I" (.int lo) → Fld Z h0 w "com/example/tandemkey/tandemkey/PinSetting" "most" "I" (.int hi) → own_Comes p e below (own_End (.int 1) h0 s room_1) T (mkF m 154 #[.val (.int p1), .val (.int p2), .val (.int p3), .val (.int (p1 &&& (7 : Int32))), .val (.ref w), .val (.int lo), .val (.int hi), .unset, .unset, .unset] []) := by
    intro T w lo hi X E Ew FL FM
    refine own_lift (T' := T) (f' := (mkF m 155 #[.val (.int p1), .val (.int p2), .val (.int p3), .val (.int (p1 &&& (7 : Int32))), .val (.ref w), .val (.int lo), .val (.int hi), .unset, .unset, .unset] [(.int p3)])) (fun _ k => XS.iloadN X.here hx rfl (hb hby at_154) rfl k) ?_
    refine own_lift (T' := T) (f' := (mkF m 156 #[.val (.int p1), .val (.int p2), .val (.int p3), .val (.int (p1 &&& (7 : Int32))), .val (.ref w), .val (.int lo), .val (.int hi), .unset, .unset, .unset] [(.int (3 : Int32)), (.int p3)])) (fun _ k => XS.iconst X.here hx rfl (hb hby at_155) k) ?_
    refine own_lift (T' := T) (f' := (mkF m 157 #[.val (.int p1), .val (.int p2), .val (.int p3), .val (.int (p1 &&& (7 : Int32))), .val (.ref w), .val (.int lo), .val (.int hi), .unset, .unset, .unset] [(.int (p3 &&& (3 : Int32)))])) (fun _ k => XS.iand X.here hx rfl (hb hby at_156) rfl k) ?_
    refine own_lift (T' := T) (f' := (mkF m 159 #[.val (.int p1), .val (.int p2), .val (.int p3), .val (.int (p1 &&& (7 : Int32))), .val (.ref w), .val (.int lo), .val (.int hi), .val (.int (p3 &&& (3 : Int32))), .unset, .unset] [])) (fun _ k => XS.istore X.here hx rfl (hb hby at_157) rfl (l' := #[.val (.int p1), .val (.int p2), .val (.int p3), .val (.int (p1 &&& (7 : Int32))), .val (.ref w), .val (.int lo), .val (.int hi), .val (.int (p3 &&& (3 : Int32))), .unset, .unset]) rfl k) ?_
    refine own_lift (T' := T) (f' := (mkF m 161 #[.val (.int p1), .val (.int p2), .val (.int p3), .val (.int (p1 &&& (7 : Int32))), .val (.ref w), .val (.int lo), .val (.int hi), .val (.int (p3 &&& (3 : Int32))), .unset, .unset] [(.int (p3 &&& (3 : Int32)))])) (fun _ k => XS.iload X.here hx rfl (hb hby at_159) rfl k) ?_
    refine own_lift (T' := T) (f' := (mkF m 162 #[.val (.int p1), .val (.int p2), .val (.int p3), .val (.int (p1 &&& (7 : Int32))), .val (.ref w), .val (.int lo), .val (.int hi), .val (.int (p3 &&& (3 : Int32))), .unset, .unset] [(.int (1 : Int32)), (.int (p3 &&& (3 : Int32)))])) (fun _ k => XS.iconst X.here hx rfl (hb hby at_161) k) ?_
    by_cases m1 : (p3 &&& (3 : Int32)) = (1 : Int32)
    · refine own_lift (T' := T) (f' := (mkF m 165 #[.val (.int p1), .val (.int p2), .val (.int p3), .val (.int (p1 &&& (7 : Int32))), .val (.ref w), .val (.int lo), .val (.int hi), .val (.int (p3 &&& (3 : Int32))), .unset, .unset] [])) (fun _ k => XS.icmpNo X.here hx rfl (hb hby at_162) rfl (teq m1).2 k) ?_
      refine own_lift (T' := T) (f' := (mkF m 167 #[.val (.int p1), .val (.int p2), .val (.int p3), .val (.int (p1 &&& (7 : Int32))), .val (.ref w), .val (.int lo), .val (.int hi), .val (.int (p3 &&& (3 : Int32))), .unset, .unset] [(.int lo)])) (fun _ k => XS.iload X.here hx rfl (hb hby at_165) rfl k) ?_
      refine own_lift (T' := T) (f' := (mkF m 168 #[.val (.int p1), .val (.int p2), .val (.int p3), .val (.int (p1 &&& (7 : Int32))), .val (.ref w), .val (.int lo), .val (.int hi), .val (.int (p3 &&& (3 : Int32))), .unset, .unset] [(.int p2), (.int lo)])) (fun _ k => XS.iloadN X.here hx rfl (hb hby at_167) rfl k) ?_
      refine own_lift (T' := T) (f' := (mkF m 169 #[.val (.int p1), .val (.int p2), .val (.int p3), .val (.int (p1 &&& (7 : Int32))), .val (.ref w), .val (.int lo), .val (.int hi), .val (.int (p3 &&& (3 : Int32))), .unset, .unset] [(.int (3 : Int32)), (.int p2), (.int lo)])) (fun _ k => XS.iconst X.here hx rfl (hb hby at_168) k) ?_
      refine own_lift (T' := T) (f' := (mkF m 170 #[.val (.int p1), .val (.int p2), .val (.int p3), .val (.int (p1 &&& (7 : Int32))), .val (.ref w), .val (.int lo), .val (.int hi), .val (.int (p3 &&& (3 : Int32))), .unset, .unset] [(.int (p2 % (3 : Int32))), (.int lo)])) (fun _ k => iremM X hx rfl (hb hby at_169) rfl (by decide) k) ?_
      refine own_lift (T' := T) (f' := (mkF m 171 #[.val (.int p1), .val (.int p2), .val (.int p3), .val (.int (p1 &&& (7 : Int32))), .val (.ref w), .val (.int lo), .val (.int hi), .val (.int (p3 &&& (3 : Int32))), .unset, .unset] [(.int (lo + (p2 % (3 : Int32))))])) (fun _ k => XS.iadd X.here hx rfl (hb hby at_170) rfl k) ?_
      refine own_lift (T' := T) (f' := (mkF m 173 #[.val (.int p1), .val (.int p2), .val (.int p3), .val (.int (p1 &&& (7 : Int32))), .val (.ref w), .val (.int lo), .val (.int hi), .val (.int (p3 &&& (3 : Int32))), .val (.int (lo + (p2 % (3 : Int32)))), .unset] [])) (fun _ k => XS.istore X.here hx rfl (hb hby at_171) rfl (l' := #[.val (.int p1), .val (.int p2), .val (.int p3), .val (.int (p1 &&& (7 : Int32))), .val (.ref w), .val (.int lo), .val (.int hi), .val (.int (p3 &&& (3 : Int32))), .val (.int (lo + (p2 % (3 : Int32)))), .unset]) rfl k) ?_
      refine own_lift (T' := T) (f' := (mkF m 196 #[.val (.int p1), .val (.int p2), .val (.int p3), .val (.int (p1 &&& (7 : Int32))), .val (.ref w), .val (.int lo), .val (.int hi), .val (.int (p3 &&& (3 : Int32))), .val (.int (lo + (p2 % (3 : Int32)))), .unset] [])) (fun _ k => XS.goto X.here hx rfl (pc0 := 173) (pc' := 196) rfl (hb hby at_173) (by decide) (by decide) k) ?_
      exact J196 T w lo hi (lo + (p2 % (3 : Int32))) X E Ew FL FM
    · refine own_lift (T' := T) (f' := (mkF m 176 #[.val (.int p1), .val (.int p2), .val (.int p3), .val (.int (p1 &&& (7 : Int32))), .val (.ref w), .val (.int lo), .val (.int hi), .val (.int (p3 &&& (3 : Int32))), .unset, .unset] [])) (fun _ k => XS.icmpYes X.here hx rfl (pc0 := 162) (pc' := 176) rfl (hb hby at_162) rfl (feq m1).2 (by decide) (by decide) k) ?_
      refine own_lift (T' := T) (f' := (mkF m 178 #[.val (.int p1), .val (.int p2), .val (.int p3), .val (.int (p1 &&& (7 : Int32))), .val (.ref w), .val (.int lo), .val (.int hi), .val (.int (p3 &&& (3 : Int32))), .unset, .unset] [(.int (p3 &&& (3 : Int32)))])) (fun _ k => XS.iload X.here hx rfl (hb hby at_176) rfl k) ?_
      refine own_lift (T' := T) (f' := (mkF m 179 #[.val (.int p1), .val (.int p2), .val (.int p3), .val (.int (p1 &&& (7 : Int32))), .val (.ref w), .val (.int lo), .val (.int hi), .val (.int (p3 &&& (3 : Int32))), .unset, .unset] [(.int (2 : Int32)), (.int (p3 &&& (3 : Int32)))])) (fun _ k => XS.iconst X.here hx rfl (hb hby at_178) k) ?_
      by_cases m2 : (p3 &&& (3 : Int32)) = (2 : Int32)
      · refine own_lift (T' := T) (f' := (mkF m 182 #[.val (.int p1), .val (.int p2), .val (.int p3), .val (.int (p1 &&& (7 : Int32))), .val (.ref w), .val (.int lo), .val (.int hi), .val (.int (p3 &&& (3 : Int32))), .unset, .unset] [])) (fun _ k => XS.icmpNo X.here hx rfl (hb hby at_179) rfl (teq m2).2 k) ?_
        refine own_lift (T' := T) (f' := (mkF m 184 #[.val (.int p1), .val (.int p2), .val (.int p3), .val (.int (p1 &&& (7 : Int32))), .val (.ref w), .val (.int lo), .val (.int hi), .val (.int (p3 &&& (3 : Int32))), .unset, .unset] [(.int hi)])) (fun _ k => XS.iload X.here hx rfl (hb hby at_182) rfl k) ?_
        refine own_lift (T' := T) (f' := (mkF m 185 #[.val (.int p1), .val (.int p2), .val (.int p3), .val (.int (p1 &&& (7 : Int32))), .val (.ref w), .val (.int lo), .val (.int hi), .val (.int (p3 &&& (3 : Int32))), .unset, .unset] [(.int p2), (.int hi)])) (fun _ k => XS.iloadN X.here hx rfl (hb hby at_184) rfl k) ?_
        refine own_lift (T' := T) (f' := (mkF m 186 #[.val (.int p1), .val (.int p2), .val (.int p3), .val (.int (p1 &&& (7 : Int32))), .val (.ref w), .val (.int lo), .val (.int hi), .val (.int (p3 &&& (3 : Int32))), .unset, .unset] [(.int (3 : Int32)), (.int p2), (.int hi)])) (fun _ k => XS.iconst X.here hx rfl (hb hby at_185) k) ?_
        refine own_lift (T' := T) (f' := (mkF m 187 #[.val (.int p1), .val (.int p2), .val (.int p3), .val (.int (p1 &&& (7 : Int32))), .val (.ref w), .val (.int lo), .val (.int hi), .val (.int (p3 &&& (3 : Int32))), .unset, .unset] [(.int (p2 % (3 : Int32))), (.int hi)])) (fun _ k => iremM X hx rfl (hb hby at_186) rfl (by decide) k) ?_
        refine own_lift (T' := T) (f' := (mkF m 188 #[.val (.int p1), .val (.int p2), .val (.int p3), .val (.int (p1 &&& (7 : Int32))), .val (.ref w), .val (.int lo), .val (.int hi), .val (.int (p3 &&& (3 : Int32))), .unset, .unset] [(.int (hi + (p2 % (3 : Int32))))])) (fun _ k => XS.iadd X.here hx rfl (hb hby at_187) rfl k) ?_
        refine own_lift (T' := T) (f' := (mkF m 190 #[.val (.int p1), .val (.int p2), .val (.int p3), .val (.int (p1 &&& (7 : Int32))), .val (.ref w), .val (.int lo), .val (.int hi), .val (.int (p3 &&& (3 : Int32))), .val (.int (hi + (p2 % (3 : Int32)))), .unset] [])) (fun _ k => XS.istore X.here hx rfl (hb hby at_188) rfl (l' := #[.val (.int p1), .val (.int p2), .val (.int p3), .val (.int (p1 &&& (7 : Int32))), .val (.ref w), .val (.int lo), .val (.int hi), .val (.int (p3 &&& (3 : Int32))), .val (.int (hi + (p2 % (3 : Int32)))), .unset]) rfl k) ?_
        refine own_lift (T' := T) (f' := (mkF m 196 #[.val (.int p1), .val (.int p2), .val (.int p3), .val (.int (p1 &&& (7 : Int32))), .val (.ref w), .val (.int lo), .val (.int hi), .val (.int (p3 &&& (3 : Int32))), .val (.int (hi + (p2 % (3 : Int32)))), .unset] [])) (fun _ k => XS.goto X.here hx rfl (pc0 := 190) (pc' := 196) rfl (hb hby at_190) (by decide) (by decide) k) ?_
        exact J196 T w lo hi (hi + (p2 % (3 : Int32))) X E Ew FL FM
      · refine own_lift (T' := T) (f' := (mkF m 193 #[.val (.int p1), .val (.int p2), .val (.int p3), .val (.int (p1 &&& (7 : Int32))), .val (.ref w), .val (.int lo), .val (.int hi), .val (.int (p3 &&& (3 : Int32))), .unset, .unset] [])) (fun _ k => XS.icmpYes X.here hx rfl (pc0 := 179) (pc' := 193) rfl (hb hby at_179) rfl (feq m2).2 (by decide) (by decide) k) ?_
        refine own_lift (T' := T) (f' := (mkF m 194 #[.val (.int p1), .val (.int p2), .val (.int p3), .val (.int (p1 &&& (7 : Int32))), .val (.ref w), .val (.int lo), .val (.int hi), .val (.int (p3 &&& (3 : Int32))), .unset, .unset] [(.int p2)])) (fun _ k => XS.iloadN X.here hx rfl (hb hby at_193) rfl k) ?_
        refine own_lift (T' := T) (f' := (mkF m 196 #[.val (.int p1), .val (.int p2), .val (.int p3), .val (.int (p1 &&& (7 : Int32))), .val (.ref w), .val (.int lo), .val (.int hi), .val (.int (p3 &&& (3 : Int32))), .val (.int p2), .unset] [])) (fun _ k => XS.istore X.here hx rfl (hb hby at_194) rfl (l' := #[.val (.int p1), .val (.int p2), .val (.int p3), .val (.int (p1 &&& (7 : Int32))), .val (.ref w), .val (.int lo), .val (.int hi), .val (.int (p3 &&& (3 : Int32))), .val (.int p2), .unset]) rfl k) ?_
        exact J196 T w lo hi p2 X E Ew FL FM
  refine own_lift (T' := s₁) (f' := (mkF m 1 #[.val (.int p1), .val (.int p2), .val (.int p3), .unset, .unset, .unset, .unset, .unset, .unset, .unset] [(.int p1)])) (fun _ k => XS.iloadN X0.here hx rfl (hb hby at_0) rfl k) ?_
  refine own_lift (T' := s₁) (f' := (mkF m 3 #[.val (.int p1), .val (.int p2), .val (.int p3), .unset, .unset, .unset, .unset, .unset, .unset, .unset] [(.int (7 : Int32)), (.int p1)])) (fun _ k => XS.bipush X0.here hx rfl (hb hby at_1) k) ?_
  refine own_lift (T' := s₁) (f' := (mkF m 4 #[.val (.int p1), .val (.int p2), .val (.int p3), .unset, .unset, .unset, .unset, .unset, .unset, .unset] [(.int (p1 &&& (7 : Int32)))])) (fun _ k => XS.iand X0.here hx rfl (hb hby at_3) rfl k) ?_
  refine own_lift (T' := s₁) (f' := (mkF m 5 #[.val (.int p1), .val (.int p2), .val (.int p3), .val (.int (p1 &&& (7 : Int32))), .unset, .unset, .unset, .unset, .unset, .unset] [])) (fun _ k => XS.istoreN X0.here hx rfl (hb hby at_4) rfl (l' := #[.val (.int p1), .val (.int p2), .val (.int p3), .val (.int (p1 &&& (7 : Int32))), .unset, .unset, .unset, .unset, .unset, .unset]) rfl k) ?_
  refine own_lift (T' := s₁) (f' := (mkF m 6 #[.val (.int p1), .val (.int p2), .val (.int p3), .val (.int (p1 &&& (7 : Int32))), .unset, .unset, .unset, .unset, .unset, .unset] [(.int (p1 &&& (7 : Int32)))])) (fun _ k => XS.iloadN X0.here hx rfl (hb hby at_5) rfl k) ?_
  by_cases k0 : (p1 &&& (7 : Int32)) = (0 : Int32)
  · refine own_lift (T' := s₁) (f' := (mkF m 9 #[.val (.int p1), .val (.int p2), .val (.int p3), .val (.int (p1 &&& (7 : Int32))), .unset, .unset, .unset, .unset, .unset, .unset] [])) (fun _ k => XS.ifNo X0.here hx rfl (hb hby at_6) rfl ((if0 _ _).trans (teq k0).2) k) ?_
    obtain ⟨T57, X57, e57, st57⟩ := getS2 X0 hx hZ hown (host := "") (Or.inl (hw _ (List.mem_of_getElem? (i := 0) rfl))) Via.refl e0 S_MINIMUM_PIN_LENGTH (g := (mkF m 9 #[.val (.int p1), .val (.int p2), .val (.int p3), .val (.int (p1 &&& (7 : Int32))), .unset, .unset, .unset, .unset, .unset, .unset] [])) rfl (hb hby at_9)
    refine own_lift (T' := T57) (f' := (mkF m 12 #[.val (.int p1), .val (.int p2), .val (.int p3), .val (.int (p1 &&& (7 : Int32))), .unset, .unset, .unset, .unset, .unset, .unset] [(.ref c0)])) (st57) ?_
    refine own_lift (T' := T57) (f' := (mkF m 14 #[.val (.int p1), .val (.int p2), .val (.int p3), .val (.int (p1 &&& (7 : Int32))), .val (.ref c0), .unset, .unset, .unset, .unset, .unset] [])) (fun _ k => XS.astore X57.here hx rfl (hb hby at_12) rfl rfl (l' := #[.val (.int p1), .val (.int p2), .val (.int p3), .val (.int (p1 &&& (7 : Int32))), .val (.ref c0), .unset, .unset, .unset, .unset, .unset]) rfl k) ?_
    refine own_lift (T' := T57) (f' := (mkF m 15 #[.val (.int p1), .val (.int p2), .val (.int p3), .val (.int (p1 &&& (7 : Int32))), .val (.ref c0), .unset, .unset, .unset, .unset, .unset] [(.int (4 : Int32))])) (fun _ k => XS.iconst X57.here hx rfl (hb hby at_14) k) ?_
    refine own_lift (T' := T57) (f' := (mkF m 17 #[.val (.int p1), .val (.int p2), .val (.int p3), .val (.int (p1 &&& (7 : Int32))), .val (.ref c0), .val (.int (4 : Int32)), .unset, .unset, .unset, .unset] [])) (fun _ k => XS.istore X57.here hx rfl (hb hby at_15) rfl (l' := #[.val (.int p1), .val (.int p2), .val (.int p3), .val (.int (p1 &&& (7 : Int32))), .val (.ref c0), .val (.int (4 : Int32)), .unset, .unset, .unset, .unset]) rfl k) ?_
    refine own_lift (T' := T57) (f' := (mkF m 19 #[.val (.int p1), .val (.int p2), .val (.int p3), .val (.int (p1 &&& (7 : Int32))), .val (.ref c0), .val (.int (4 : Int32)), .unset, .unset, .unset, .unset] [(.int (127 : Int32))])) (fun _ k => XS.bipush X57.here hx rfl (hb hby at_17) k) ?_
    refine own_lift (T' := T57) (f' := (mkF m 21 #[.val (.int p1), .val (.int p2), .val (.int p3), .val (.int (p1 &&& (7 : Int32))), .val (.ref c0), .val (.int (4 : Int32)), .val (.int (127 : Int32)), .unset, .unset, .unset] [])) (fun _ k => XS.istore X57.here hx rfl (hb hby at_19) rfl (l' := #[.val (.int p1), .val (.int p2), .val (.int p3), .val (.int (p1 &&& (7 : Int32))), .val (.ref c0), .val (.int (4 : Int32)), .val (.int (127 : Int32)), .unset, .unset, .unset]) rfl k) ?_
    refine own_lift (T' := T57) (f' := (mkF m 154 #[.val (.int p1), .val (.int p2), .val (.int p3), .val (.int (p1 &&& (7 : Int32))), .val (.ref c0), .val (.int (4 : Int32)), .val (.int (127 : Int32)), .unset, .unset, .unset] [])) (fun _ k => XS.goto X57.here hx rfl (pc0 := 21) (pc' := 154) rfl (hb hby at_21) (by decide) (by decide) k) ?_
    exact J154 T57 c0 (4 : Int32) (127 : Int32) X57 e57 E_c0 FL_c0 FM_c0
  · refine own_lift (T' := s₁) (f' := (mkF m 24 #[.val (.int p1), .val (.int p2), .val (.int p3), .val (.int (p1 &&& (7 : Int32))), .unset, .unset, .unset, .unset, .unset, .unset] [])) (fun _ k => XS.ifYes X0.here hx rfl (pc0 := 6) (pc' := 24) rfl (hb hby at_6) rfl ((if0 _ _).trans (feq k0).2) (by decide) (by decide) k) ?_
    refine own_lift (T' := s₁) (f' := (mkF m 25 #[.val (.int p1), .val (.int p2), .val (.int p3), .val (.int (p1 &&& (7 : Int32))), .unset, .unset, .unset, .unset, .unset, .unset] [(.int (p1 &&& (7 : Int32)))])) (fun _ k => XS.iloadN X0.here hx rfl (hb hby at_24) rfl k) ?_
    refine own_lift (T' := s₁) (f' := (mkF m 26 #[.val (.int p1), .val (.int p2), .val (.int p3), .val (.int (p1 &&& (7 : Int32))), .unset, .unset, .unset, .unset, .unset, .unset] [(.int (1 : Int32)), (.int (p1 &&& (7 : Int32)))])) (fun _ k => XS.iconst X0.here hx rfl (hb hby at_25) k) ?_
    by_cases k1 : (p1 &&& (7 : Int32)) = (1 : Int32)
    · refine own_lift (T' := s₁) (f' := (mkF m 29 #[.val (.int p1), .val (.int p2), .val (.int p3), .val (.int (p1 &&& (7 : Int32))), .unset, .unset, .unset, .unset, .unset, .unset] [])) (fun _ k => XS.icmpNo X0.here hx rfl (hb hby at_26) rfl (teq k1).2 k) ?_
      obtain ⟨T58, X58, e58, st58⟩ := getS2 X0 hx hZ hown (host := "") (Or.inl (hw _ (List.mem_of_getElem? (i := 12) rfl))) Via.refl e0 S_MAXIMUM_PIN_LENGTH (g := (mkF m 29 #[.val (.int p1), .val (.int p2), .val (.int p3), .val (.int (p1 &&& (7 : Int32))), .unset, .unset, .unset, .unset, .unset, .unset] [])) rfl (hb hby at_29)
      refine own_lift (T' := T58) (f' := (mkF m 32 #[.val (.int p1), .val (.int p2), .val (.int p3), .val (.int (p1 &&& (7 : Int32))), .unset, .unset, .unset, .unset, .unset, .unset] [(.ref c1)])) (st58) ?_
      refine own_lift (T' := T58) (f' := (mkF m 34 #[.val (.int p1), .val (.int p2), .val (.int p3), .val (.int (p1 &&& (7 : Int32))), .val (.ref c1), .unset, .unset, .unset, .unset, .unset] [])) (fun _ k => XS.astore X58.here hx rfl (hb hby at_32) rfl rfl (l' := #[.val (.int p1), .val (.int p2), .val (.int p3), .val (.int (p1 &&& (7 : Int32))), .val (.ref c1), .unset, .unset, .unset, .unset, .unset]) rfl k) ?_
      refine own_lift (T' := T58) (f' := (mkF m 35 #[.val (.int p1), .val (.int p2), .val (.int p3), .val (.int (p1 &&& (7 : Int32))), .val (.ref c1), .unset, .unset, .unset, .unset, .unset] [(.int (4 : Int32))])) (fun _ k => XS.iconst X58.here hx rfl (hb hby at_34) k) ?_
      refine own_lift (T' := T58) (f' := (mkF m 37 #[.val (.int p1), .val (.int p2), .val (.int p3), .val (.int (p1 &&& (7 : Int32))), .val (.ref c1), .val (.int (4 : Int32)), .unset, .unset, .unset, .unset] [])) (fun _ k => XS.istore X58.here hx rfl (hb hby at_35) rfl (l' := #[.val (.int p1), .val (.int p2), .val (.int p3), .val (.int (p1 &&& (7 : Int32))), .val (.ref c1), .val (.int (4 : Int32)), .unset, .unset, .unset, .unset]) rfl k) ?_
      refine own_lift (T' := T58) (f' := (mkF m 39 #[.val (.int p1), .val (.int p2), .val (.int p3), .val (.int (p1 &&& (7 : Int32))), .val (.ref c1), .val (.int (4 : Int32)), .unset, .unset, .unset, .unset] [(.int (127 : Int32))])) (fun _ k => XS.bipush X58.here hx rfl (hb hby at_37) k) ?_
      refine own_lift (T' := T58) (f' := (mkF m 41 #[.val (.int p1), .val (.int p2), .val (.int p3), .val (.int (p1 &&& (7 : Int32))), .val (.ref c1), .val (.int (4 : Int32)), .val (.int (127 : Int32)), .unset, .unset, .unset] [])) (fun _ k => XS.istore X58.here hx rfl (hb hby at_39) rfl (l' := #[.val (.int p1), .val (.int p2), .val (.int p3), .val (.int (p1 &&& (7 : Int32))), .val (.ref c1), .val (.int (4 : Int32)), .val (.int (127 : Int32)), .unset, .unset, .unset]) rfl k) ?_
      refine own_lift (T' := T58) (f' := (mkF m 154 #[.val (.int p1), .val (.int p2), .val (.int p3), .val (.int (p1 &&& (7 : Int32))), .val (.ref c1), .val (.int (4 : Int32)), .val (.int (127 : Int32)), .unset, .unset, .unset] [])) (fun _ k => XS.goto X58.here hx rfl (pc0 := 41) (pc' := 154) rfl (hb hby at_41) (by decide) (by decide) k) ?_
      exact J154 T58 c1 (4 : Int32) (127 : Int32) X58 e58 E_c1 FL_c1 FM_c1
    · refine own_lift (T' := s₁) (f' := (mkF m 44 #[.val (.int p1), .val (.int p2), .val (.int p3), .val (.int (p1 &&& (7 : Int32))), .unset, .unset, .unset, .unset, .unset, .unset] [])) (fun _ k => XS.icmpYes X0.here hx rfl (pc0 := 26) (pc' := 44) rfl (hb hby at_26) rfl (feq k1).2 (by decide) (by decide) k) ?_
      refine own_lift (T' := s₁) (f' := (mkF m 45 #[.val (.int p1), .val (.int p2), .val (.int p3), .val (.int (p1 &&& (7 : Int32))), .unset, .unset, .unset, .unset, .unset, .unset] [(.int (p1 &&& (7 : Int32)))])) (fun _ k => XS.iloadN X0.here hx rfl (hb hby at_44) rfl k) ?_
      refine own_lift (T' := s₁) (f' := (mkF m 46 #[.val (.int p1), .val (.int p2), .val (.int p3), .val (.int (p1 &&& (7 : Int32))), .unset, .unset, .unset, .unset, .unset, .unset] [(.int (2 : Int32)), (.int (p1 &&& (7 : Int32)))])) (fun _ k => XS.iconst X0.here hx rfl (hb hby at_45) k) ?_
      by_cases k2 : (p1 &&& (7 : Int32)) = (2 : Int32)
      · refine own_lift (T' := s₁) (f' := (mkF m 49 #[.val (.int p1), .val (.int p2), .val (.int p3), .val (.int (p1 &&& (7 : Int32))), .unset, .unset, .unset, .unset, .unset, .unset] [])) (fun _ k => XS.icmpNo X0.here hx rfl (hb hby at_46) rfl (teq k2).2 k) ?_
        obtain ⟨T59, X59, e59, st59⟩ := getS2 X0 hx hZ hown (host := "") (Or.inl (hw _ (List.mem_of_getElem? (i := 18) rfl))) Via.refl e0 S_DIGITS (g := (mkF m 49 #[.val (.int p1), .val (.int p2), .val (.int p3), .val (.int (p1 &&& (7 : Int32))), .unset, .unset, .unset, .unset, .unset, .unset] [])) rfl (hb hby at_49)
        refine own_lift (T' := T59) (f' := (mkF m 52 #[.val (.int p1), .val (.int p2), .val (.int p3), .val (.int (p1 &&& (7 : Int32))), .unset, .unset, .unset, .unset, .unset, .unset] [(.ref c2)])) (st59) ?_
        refine own_lift (T' := T59) (f' := (mkF m 54 #[.val (.int p1), .val (.int p2), .val (.int p3), .val (.int (p1 &&& (7 : Int32))), .val (.ref c2), .unset, .unset, .unset, .unset, .unset] [])) (fun _ k => XS.astore X59.here hx rfl (hb hby at_52) rfl rfl (l' := #[.val (.int p1), .val (.int p2), .val (.int p3), .val (.int (p1 &&& (7 : Int32))), .val (.ref c2), .unset, .unset, .unset, .unset, .unset]) rfl k) ?_
        refine own_lift (T' := T59) (f' := (mkF m 55 #[.val (.int p1), .val (.int p2), .val (.int p3), .val (.int (p1 &&& (7 : Int32))), .val (.ref c2), .unset, .unset, .unset, .unset, .unset] [(.int (0 : Int32))])) (fun _ k => XS.iconst X59.here hx rfl (hb hby at_54) k) ?_
        refine own_lift (T' := T59) (f' := (mkF m 57 #[.val (.int p1), .val (.int p2), .val (.int p3), .val (.int (p1 &&& (7 : Int32))), .val (.ref c2), .val (.int (0 : Int32)), .unset, .unset, .unset, .unset] [])) (fun _ k => XS.istore X59.here hx rfl (hb hby at_55) rfl (l' := #[.val (.int p1), .val (.int p2), .val (.int p3), .val (.int (p1 &&& (7 : Int32))), .val (.ref c2), .val (.int (0 : Int32)), .unset, .unset, .unset, .unset]) rfl k) ?_
        refine own_lift (T' := T59) (f' := (mkF m 58 #[.val (.int p1), .val (.int p2), .val (.int p3), .val (.int (p1 &&& (7 : Int32))), .val (.ref c2), .val (.int (0 : Int32)), .unset, .unset, .unset, .unset] [(.int (2 : Int32))])) (fun _ k => XS.iconst X59.here hx rfl (hb hby at_57) k) ?_
        refine own_lift (T' := T59) (f' := (mkF m 60 #[.val (.int p1), .val (.int p2), .val (.int p3), .val (.int (p1 &&& (7 : Int32))), .val (.ref c2), .val (.int (0 : Int32)), .val (.int (2 : Int32)), .unset, .unset, .unset] [])) (fun _ k => XS.istore X59.here hx rfl (hb hby at_58) rfl (l' := #[.val (.int p1), .val (.int p2), .val (.int p3), .val (.int (p1 &&& (7 : Int32))), .val (.ref c2), .val (.int (0 : Int32)), .val (.int (2 : Int32)), .unset, .unset, .unset]) rfl k) ?_
        refine own_lift (T' := T59) (f' := (mkF m 154 #[.val (.int p1), .val (.int p2), .val (.int p3), .val (.int (p1 &&& (7 : Int32))), .val (.ref c2), .val (.int (0 : Int32)), .val (.int (2 : Int32)), .unset, .unset, .unset] [])) (fun _ k => XS.goto X59.here hx rfl (pc0 := 60) (pc' := 154) rfl (hb hby at_60) (by decide) (by decide) k) ?_
        exact J154 T59 c2 (0 : Int32) (2 : Int32) X59 e59 E_c2 FL_c2 FM_c2
      · refine own_lift (T' := s₁) (f' := (mkF m 63 #[.val (.int p1), .val (.int p2), .val (.int p3), .val (.int (p1 &&& (7 : Int32))), .unset, .unset, .unset, .unset, .unset, .unset] [])) (fun _ k => XS.icmpYes X0.here hx rfl (pc0 := 46) (pc' := 63) rfl (hb hby at_46) rfl (feq k2).2 (by decide) (by decide) k) ?_
        refine own_lift (T' := s₁) (f' := (mkF m 64 #[.val (.int p1), .val (.int p2), .val (.int p3), .val (.int (p1 &&& (7 : Int32))), .unset, .unset, .unset, .unset, .unset, .unset] [(.int (p1 &&& (7 : Int32)))])) (fun _ k => XS.iloadN X0.here hx rfl (hb hby at_63) rfl k) ?_
        refine own_lift (T' := s₁) (f' := (mkF m 65 #[.val (.int p1), .val (.int p2), .val (.int p3), .val (.int (p1 &&& (7 : Int32))), .unset, .unset, .unset, .unset, .unset, .unset] [(.int (3 : Int32)), (.int (p1 &&& (7 : Int32)))])) (fun _ k => XS.iconst X0.here hx rfl (hb hby at_64) k) ?_
        by_cases k3 : (p1 &&& (7 : Int32)) = (3 : Int32)
        · refine own_lift (T' := s₁) (f' := (mkF m 68 #[.val (.int p1), .val (.int p2), .val (.int p3), .val (.int (p1 &&& (7 : Int32))), .unset, .unset, .unset, .unset, .unset, .unset] [])) (fun _ k => XS.icmpNo X0.here hx rfl (hb hby at_65) rfl (teq k3).2 k) ?_
          obtain ⟨T60, X60, e60, st60⟩ := getS2 X0 hx hZ hown (host := "") (Or.inl (hw _ (List.mem_of_getElem? (i := 20) rfl))) Via.refl e0 S_LOWERCASE_LETTERS (g := (mkF m 68 #[.val (.int p1), .val (.int p2), .val (.int p3), .val (.int (p1 &&& (7 : Int32))), .unset, .unset, .unset, .unset, .unset, .unset] [])) rfl (hb hby at_68)
          refine own_lift (T' := T60) (f' := (mkF m 71 #[.val (.int p1), .val (.int p2), .val (.int p3), .val (.int (p1 &&& (7 : Int32))), .unset, .unset, .unset, .unset, .unset, .unset] [(.ref c3)])) (st60) ?_
          refine own_lift (T' := T60) (f' := (mkF m 73 #[.val (.int p1), .val (.int p2), .val (.int p3), .val (.int (p1 &&& (7 : Int32))), .val (.ref c3), .unset, .unset, .unset, .unset, .unset] [])) (fun _ k => XS.astore X60.here hx rfl (hb hby at_71) rfl rfl (l' := #[.val (.int p1), .val (.int p2), .val (.int p3), .val (.int (p1 &&& (7 : Int32))), .val (.ref c3), .unset, .unset, .unset, .unset, .unset]) rfl k) ?_
          refine own_lift (T' := T60) (f' := (mkF m 74 #[.val (.int p1), .val (.int p2), .val (.int p3), .val (.int (p1 &&& (7 : Int32))), .val (.ref c3), .unset, .unset, .unset, .unset, .unset] [(.int (0 : Int32))])) (fun _ k => XS.iconst X60.here hx rfl (hb hby at_73) k) ?_
          refine own_lift (T' := T60) (f' := (mkF m 76 #[.val (.int p1), .val (.int p2), .val (.int p3), .val (.int (p1 &&& (7 : Int32))), .val (.ref c3), .val (.int (0 : Int32)), .unset, .unset, .unset, .unset] [])) (fun _ k => XS.istore X60.here hx rfl (hb hby at_74) rfl (l' := #[.val (.int p1), .val (.int p2), .val (.int p3), .val (.int (p1 &&& (7 : Int32))), .val (.ref c3), .val (.int (0 : Int32)), .unset, .unset, .unset, .unset]) rfl k) ?_
          refine own_lift (T' := T60) (f' := (mkF m 77 #[.val (.int p1), .val (.int p2), .val (.int p3), .val (.int (p1 &&& (7 : Int32))), .val (.ref c3), .val (.int (0 : Int32)), .unset, .unset, .unset, .unset] [(.int (2 : Int32))])) (fun _ k => XS.iconst X60.here hx rfl (hb hby at_76) k) ?_
          refine own_lift (T' := T60) (f' := (mkF m 79 #[.val (.int p1), .val (.int p2), .val (.int p3), .val (.int (p1 &&& (7 : Int32))), .val (.ref c3), .val (.int (0 : Int32)), .val (.int (2 : Int32)), .unset, .unset, .unset] [])) (fun _ k => XS.istore X60.here hx rfl (hb hby at_77) rfl (l' := #[.val (.int p1), .val (.int p2), .val (.int p3), .val (.int (p1 &&& (7 : Int32))), .val (.ref c3), .val (.int (0 : Int32)), .val (.int (2 : Int32)), .unset, .unset, .unset]) rfl k) ?_
          refine own_lift (T' := T60) (f' := (mkF m 154 #[.val (.int p1), .val (.int p2), .val (.int p3), .val (.int (p1 &&& (7 : Int32))), .val (.ref c3), .val (.int (0 : Int32)), .val (.int (2 : Int32)), .unset, .unset, .unset] [])) (fun _ k => XS.goto X60.here hx rfl (pc0 := 79) (pc' := 154) rfl (hb hby at_79) (by decide) (by decide) k) ?_
          exact J154 T60 c3 (0 : Int32) (2 : Int32) X60 e60 E_c3 FL_c3 FM_c3
        · refine own_lift (T' := s₁) (f' := (mkF m 82 #[.val (.int p1), .val (.int p2), .val (.int p3), .val (.int (p1 &&& (7 : Int32))), .unset, .unset, .unset, .unset, .unset, .unset] [])) (fun _ k => XS.icmpYes X0.here hx rfl (pc0 := 65) (pc' := 82) rfl (hb hby at_65) rfl (feq k3).2 (by decide) (by decide) k) ?_
          refine own_lift (T' := s₁) (f' := (mkF m 83 #[.val (.int p1), .val (.int p2), .val (.int p3), .val (.int (p1 &&& (7 : Int32))), .unset, .unset, .unset, .unset, .unset, .unset] [(.int (p1 &&& (7 : Int32)))])) (fun _ k => XS.iloadN X0.here hx rfl (hb hby at_82) rfl k) ?_
          refine own_lift (T' := s₁) (f' := (mkF m 84 #[.val (.int p1), .val (.int p2), .val (.int p3), .val (.int (p1 &&& (7 : Int32))), .unset, .unset, .unset, .unset, .unset, .unset] [(.int (4 : Int32)), (.int (p1 &&& (7 : Int32)))])) (fun _ k => XS.iconst X0.here hx rfl (hb hby at_83) k) ?_
          by_cases k4 : (p1 &&& (7 : Int32)) = (4 : Int32)
          · refine own_lift (T' := s₁) (f' := (mkF m 87 #[.val (.int p1), .val (.int p2), .val (.int p3), .val (.int (p1 &&& (7 : Int32))), .unset, .unset, .unset, .unset, .unset, .unset] [])) (fun _ k => XS.icmpNo X0.here hx rfl (hb hby at_84) rfl (teq k4).2 k) ?_
            obtain ⟨T61, X61, e61, st61⟩ := getS2 X0 hx hZ hown (host := "") (Or.inl (hw _ (List.mem_of_getElem? (i := 14) rfl))) Via.refl e0 S_UPPERCASE_LETTERS (g := (mkF m 87 #[.val (.int p1), .val (.int p2), .val (.int p3), .val (.int (p1 &&& (7 : Int32))), .unset, .unset, .unset, .unset, .unset, .unset] [])) rfl (hb hby at_87)
            refine own_lift (T' := T61) (f' := (mkF m 90 #[.val (.int p1), .val (.int p2), .val (.int p3), .val (.int (p1 &&& (7 : Int32))), .unset, .unset, .unset, .unset, .unset, .unset] [(.ref c4)])) (st61) ?_
            refine own_lift (T' := T61) (f' := (mkF m 92 #[.val (.int p1), .val (.int p2), .val (.int p3), .val (.int (p1 &&& (7 : Int32))), .val (.ref c4), .unset, .unset, .unset, .unset, .unset] [])) (fun _ k => XS.astore X61.here hx rfl (hb hby at_90) rfl rfl (l' := #[.val (.int p1), .val (.int p2), .val (.int p3), .val (.int (p1 &&& (7 : Int32))), .val (.ref c4), .unset, .unset, .unset, .unset, .unset]) rfl k) ?_
            refine own_lift (T' := T61) (f' := (mkF m 93 #[.val (.int p1), .val (.int p2), .val (.int p3), .val (.int (p1 &&& (7 : Int32))), .val (.ref c4), .unset, .unset, .unset, .unset, .unset] [(.int (0 : Int32))])) (fun _ k => XS.iconst X61.here hx rfl (hb hby at_92) k) ?_
            refine own_lift (T' := T61) (f' := (mkF m 95 #[.val (.int p1), .val (.int p2), .val (.int p3), .val (.int (p1 &&& (7 : Int32))), .val (.ref c4), .val (.int (0 : Int32)), .unset, .unset, .unset, .unset] [])) (fun _ k => XS.istore X61.here hx rfl (hb hby at_93) rfl (l' := #[.val (.int p1), .val (.int p2), .val (.int p3), .val (.int (p1 &&& (7 : Int32))), .val (.ref c4), .val (.int (0 : Int32)), .unset, .unset, .unset, .unset]) rfl k) ?_
            refine own_lift (T' := T61) (f' := (mkF m 96 #[.val (.int p1), .val (.int p2), .val (.int p3), .val (.int (p1 &&& (7 : Int32))), .val (.ref c4), .val (.int (0 : Int32)), .unset, .unset, .unset, .unset] [(.int (2 : Int32))])) (fun _ k => XS.iconst X61.here hx rfl (hb hby at_95) k) ?_
            refine own_lift (T' := T61) (f' := (mkF m 98 #[.val (.int p1), .val (.int p2), .val (.int p3), .val (.int (p1 &&& (7 : Int32))), .val (.ref c4), .val (.int (0 : Int32)), .val (.int (2 : Int32)), .unset, .unset, .unset] [])) (fun _ k => XS.istore X61.here hx rfl (hb hby at_96) rfl (l' := #[.val (.int p1), .val (.int p2), .val (.int p3), .val (.int (p1 &&& (7 : Int32))), .val (.ref c4), .val (.int (0 : Int32)), .val (.int (2 : Int32)), .unset, .unset, .unset]) rfl k) ?_
            refine own_lift (T' := T61) (f' := (mkF m 154 #[.val (.int p1), .val (.int p2), .val (.int p3), .val (.int (p1 &&& (7 : Int32))), .val (.ref c4), .val (.int (0 : Int32)), .val (.int (2 : Int32)), .unset, .unset, .unset] [])) (fun _ k => XS.goto X61.here hx rfl (pc0 := 98) (pc' := 154) rfl (hb hby at_98) (by decide) (by decide) k) ?_
            exact J154 T61 c4 (0 : Int32) (2 : Int32) X61 e61 E_c4 FL_c4 FM_c4
          · refine own_lift (T' := s₁) (f' := (mkF m 101 #[.val (.int p1), .val (.int p2), .val (.int p3), .val (.int (p1 &&& (7 : Int32))), .unset, .unset, .unset, .unset, .unset, .unset] [])) (fun _ k => XS.icmpYes X0.here hx rfl (pc0 := 84) (pc' := 101) rfl (hb hby at_84) rfl (feq k4).2 (by decide) (by decide) k) ?_
            refine own_lift (T' := s₁) (f' := (mkF m 102 #[.val (.int p1), .val (.int p2), .val (.int p3), .val (.int (p1 &&& (7 : Int32))), .unset, .unset, .unset, .unset, .unset, .unset] [(.int (p1 &&& (7 : Int32)))])) (fun _ k => XS.iloadN X0.here hx rfl (hb hby at_101) rfl k) ?_
            refine own_lift (T' := s₁) (f' := (mkF m 103 #[.val (.int p1), .val (.int p2), .val (.int p3), .val (.int (p1 &&& (7 : Int32))), .unset, .unset, .unset, .unset, .unset, .unset] [(.int (5 : Int32)), (.int (p1 &&& (7 : Int32)))])) (fun _ k => XS.iconst X0.here hx rfl (hb hby at_102) k) ?_
            by_cases k5 : (p1 &&& (7 : Int32)) = (5 : Int32)
            · refine own_lift (T' := s₁) (f' := (mkF m 106 #[.val (.int p1), .val (.int p2), .val (.int p3), .val (.int (p1 &&& (7 : Int32))), .unset, .unset, .unset, .unset, .unset, .unset] [])) (fun _ k => XS.icmpNo X0.here hx rfl (hb hby at_103) rfl (teq k5).2 k) ?_
              obtain ⟨T62, X62, e62, st62⟩ := getS2 X0 hx hZ hown (host := "") (Or.inl (hw _ (List.mem_of_getElem? (i := 22) rfl))) Via.refl e0 S_SPECIAL_CHARACTERS (g := (mkF m 106 #[.val (.int p1), .val (.int p2), .val (.int p3), .val (.int (p1 &&& (7 : Int32))), .unset, .unset, .unset, .unset, .unset, .unset] [])) rfl (hb hby at_106)
              refine own_lift (T' := T62) (f' := (mkF m 109 #[.val (.int p1), .val (.int p2), .val (.int p3), .val (.int (p1 &&& (7 : Int32))), .unset, .unset, .unset, .unset, .unset, .unset] [(.ref c5)])) (st62) ?_
              refine own_lift (T' := T62) (f' := (mkF m 111 #[.val (.int p1), .val (.int p2), .val (.int p3), .val (.int (p1 &&& (7 : Int32))), .val (.ref c5), .unset, .unset, .unset, .unset, .unset] [])) (fun _ k => XS.astore X62.here hx rfl (hb hby at_109) rfl rfl (l' := #[.val (.int p1), .val (.int p2), .val (.int p3), .val (.int (p1 &&& (7 : Int32))), .val (.ref c5), .unset, .unset, .unset, .unset, .unset]) rfl k) ?_
              refine own_lift (T' := T62) (f' := (mkF m 112 #[.val (.int p1), .val (.int p2), .val (.int p3), .val (.int (p1 &&& (7 : Int32))), .val (.ref c5), .unset, .unset, .unset, .unset, .unset] [(.int (0 : Int32))])) (fun _ k => XS.iconst X62.here hx rfl (hb hby at_111) k) ?_
              refine own_lift (T' := T62) (f' := (mkF m 114 #[.val (.int p1), .val (.int p2), .val (.int p3), .val (.int (p1 &&& (7 : Int32))), .val (.ref c5), .val (.int (0 : Int32)), .unset, .unset, .unset, .unset] [])) (fun _ k => XS.istore X62.here hx rfl (hb hby at_112) rfl (l' := #[.val (.int p1), .val (.int p2), .val (.int p3), .val (.int (p1 &&& (7 : Int32))), .val (.ref c5), .val (.int (0 : Int32)), .unset, .unset, .unset, .unset]) rfl k) ?_
              refine own_lift (T' := T62) (f' := (mkF m 115 #[.val (.int p1), .val (.int p2), .val (.int p3), .val (.int (p1 &&& (7 : Int32))), .val (.ref c5), .val (.int (0 : Int32)), .unset, .unset, .unset, .unset] [(.int (2 : Int32))])) (fun _ k => XS.iconst X62.here hx rfl (hb hby at_114) k) ?_
              refine own_lift (T' := T62) (f' := (mkF m 117 #[.val (.int p1), .val (.int p2), .val (.int p3), .val (.int (p1 &&& (7 : Int32))), .val (.ref c5), .val (.int (0 : Int32)), .val (.int (2 : Int32)), .unset, .unset, .unset] [])) (fun _ k => XS.istore X62.here hx rfl (hb hby at_115) rfl (l' := #[.val (.int p1), .val (.int p2), .val (.int p3), .val (.int (p1 &&& (7 : Int32))), .val (.ref c5), .val (.int (0 : Int32)), .val (.int (2 : Int32)), .unset, .unset, .unset]) rfl k) ?_
              refine own_lift (T' := T62) (f' := (mkF m 154 #[.val (.int p1), .val (.int p2), .val (.int p3), .val (.int (p1 &&& (7 : Int32))), .val (.ref c5), .val (.int (0 : Int32)), .val (.int (2 : Int32)), .unset, .unset, .unset] [])) (fun _ k => XS.goto X62.here hx rfl (pc0 := 117) (pc' := 154) rfl (hb hby at_117) (by decide) (by decide) k) ?_
              exact J154 T62 c5 (0 : Int32) (2 : Int32) X62 e62 E_c5 FL_c5 FM_c5
            · refine own_lift (T' := s₁) (f' := (mkF m 120 #[.val (.int p1), .val (.int p2), .val (.int p3), .val (.int (p1 &&& (7 : Int32))), .unset, .unset, .unset, .unset, .unset, .unset] [])) (fun _ k => XS.icmpYes X0.here hx rfl (pc0 := 103) (pc' := 120) rfl (hb hby at_103) rfl (feq k5).2 (by decide) (by decide) k) ?_
              refine own_lift (T' := s₁) (f' := (mkF m 121 #[.val (.int p1), .val (.int p2), .val (.int p3), .val (.int (p1 &&& (7 : Int32))), .unset, .unset, .unset, .unset, .unset, .unset] [(.int (p1 &&& (7 : Int32)))])) (fun _ k => XS.iloadN X0.here hx rfl (hb hby at_120) rfl k) ?_
              refine own_lift (T' := s₁) (f' := (mkF m 123 #[.val (.int p1), .val (.int p2), .val (.int p3), .val (.int (p1 &&& (7 : Int32))), .unset, .unset, .unset, .unset, .unset, .unset] [(.int (6 : Int32)), (.int (p1 &&& (7 : Int32)))])) (fun _ k => XS.bipush X0.here hx rfl (hb hby at_121) k) ?_
              by_cases k6 : (p1 &&& (7 : Int32)) = (6 : Int32)
              · refine own_lift (T' := s₁) (f' := (mkF m 126 #[.val (.int p1), .val (.int p2), .val (.int p3), .val (.int (p1 &&& (7 : Int32))), .unset, .unset, .unset, .unset, .unset, .unset] [])) (fun _ k => XS.icmpNo X0.here hx rfl (hb hby at_123) rfl (teq k6).2 k) ?_
                obtain ⟨T63, X63, e63, st63⟩ := getS2 X0 hx hZ hown (host := "") (Or.inl (hw _ (List.mem_of_getElem? (i := 24) rfl))) Via.refl e0 S_HISTORY (g := (mkF m 126 #[.val (.int p1), .val (.int p2), .val (.int p3), .val (.int (p1 &&& (7 : Int32))), .unset, .unset, .unset, .unset, .unset, .unset] [])) rfl (hb hby at_126)
                refine own_lift (T' := T63) (f' := (mkF m 129 #[.val (.int p1), .val (.int p2), .val (.int p3), .val (.int (p1 &&& (7 : Int32))), .unset, .unset, .unset, .unset, .unset, .unset] [(.ref c6)])) (st63) ?_
                refine own_lift (T' := T63) (f' := (mkF m 131 #[.val (.int p1), .val (.int p2), .val (.int p3), .val (.int (p1 &&& (7 : Int32))), .val (.ref c6), .unset, .unset, .unset, .unset, .unset] [])) (fun _ k => XS.astore X63.here hx rfl (hb hby at_129) rfl rfl (l' := #[.val (.int p1), .val (.int p2), .val (.int p3), .val (.int (p1 &&& (7 : Int32))), .val (.ref c6), .unset, .unset, .unset, .unset, .unset]) rfl k) ?_
                refine own_lift (T' := T63) (f' := (mkF m 132 #[.val (.int p1), .val (.int p2), .val (.int p3), .val (.int (p1 &&& (7 : Int32))), .val (.ref c6), .unset, .unset, .unset, .unset, .unset] [(.int (0 : Int32))])) (fun _ k => XS.iconst X63.here hx rfl (hb hby at_131) k) ?_
                refine own_lift (T' := T63) (f' := (mkF m 134 #[.val (.int p1), .val (.int p2), .val (.int p3), .val (.int (p1 &&& (7 : Int32))), .val (.ref c6), .val (.int (0 : Int32)), .unset, .unset, .unset, .unset] [])) (fun _ k => XS.istore X63.here hx rfl (hb hby at_132) rfl (l' := #[.val (.int p1), .val (.int p2), .val (.int p3), .val (.int (p1 &&& (7 : Int32))), .val (.ref c6), .val (.int (0 : Int32)), .unset, .unset, .unset, .unset]) rfl k) ?_
                refine own_lift (T' := T63) (f' := (mkF m 136 #[.val (.int p1), .val (.int p2), .val (.int p3), .val (.int (p1 &&& (7 : Int32))), .val (.ref c6), .val (.int (0 : Int32)), .unset, .unset, .unset, .unset] [(.int (50 : Int32))])) (fun _ k => XS.bipush X63.here hx rfl (hb hby at_134) k) ?_
                refine own_lift (T' := T63) (f' := (mkF m 138 #[.val (.int p1), .val (.int p2), .val (.int p3), .val (.int (p1 &&& (7 : Int32))), .val (.ref c6), .val (.int (0 : Int32)), .val (.int (50 : Int32)), .unset, .unset, .unset] [])) (fun _ k => XS.istore X63.here hx rfl (hb hby at_136) rfl (l' := #[.val (.int p1), .val (.int p2), .val (.int p3), .val (.int (p1 &&& (7 : Int32))), .val (.ref c6), .val (.int (0 : Int32)), .val (.int (50 : Int32)), .unset, .unset, .unset]) rfl k) ?_
                refine own_lift (T' := T63) (f' := (mkF m 154 #[.val (.int p1), .val (.int p2), .val (.int p3), .val (.int (p1 &&& (7 : Int32))), .val (.ref c6), .val (.int (0 : Int32)), .val (.int (50 : Int32)), .unset, .unset, .unset] [])) (fun _ k => XS.goto X63.here hx rfl (pc0 := 138) (pc' := 154) rfl (hb hby at_138) (by decide) (by decide) k) ?_
                exact J154 T63 c6 (0 : Int32) (50 : Int32) X63 e63 E_c6 FL_c6 FM_c6
              · refine own_lift (T' := s₁) (f' := (mkF m 141 #[.val (.int p1), .val (.int p2), .val (.int p3), .val (.int (p1 &&& (7 : Int32))), .unset, .unset, .unset, .unset, .unset, .unset] [])) (fun _ k => XS.icmpYes X0.here hx rfl (pc0 := 123) (pc' := 141) rfl (hb hby at_123) rfl (feq k6).2 (by decide) (by decide) k) ?_
                obtain ⟨T64, X64, e64, st64⟩ := getS2 X0 hx hZ hown (host := "") (Or.inl (hw _ (List.mem_of_getElem? (i := 16) rfl))) Via.refl e0 S_EXPIRATION (g := (mkF m 141 #[.val (.int p1), .val (.int p2), .val (.int p3), .val (.int (p1 &&& (7 : Int32))), .unset, .unset, .unset, .unset, .unset, .unset] [])) rfl (hb hby at_141)
                refine own_lift (T' := T64) (f' := (mkF m 144 #[.val (.int p1), .val (.int p2), .val (.int p3), .val (.int (p1 &&& (7 : Int32))), .unset, .unset, .unset, .unset, .unset, .unset] [(.ref c7)])) (st64) ?_
                refine own_lift (T' := T64) (f' := (mkF m 146 #[.val (.int p1), .val (.int p2), .val (.int p3), .val (.int (p1 &&& (7 : Int32))), .val (.ref c7), .unset, .unset, .unset, .unset, .unset] [])) (fun _ k => XS.astore X64.here hx rfl (hb hby at_144) rfl rfl (l' := #[.val (.int p1), .val (.int p2), .val (.int p3), .val (.int (p1 &&& (7 : Int32))), .val (.ref c7), .unset, .unset, .unset, .unset, .unset]) rfl k) ?_
                refine own_lift (T' := T64) (f' := (mkF m 147 #[.val (.int p1), .val (.int p2), .val (.int p3), .val (.int (p1 &&& (7 : Int32))), .val (.ref c7), .unset, .unset, .unset, .unset, .unset] [(.int (0 : Int32))])) (fun _ k => XS.iconst X64.here hx rfl (hb hby at_146) k) ?_
                refine own_lift (T' := T64) (f' := (mkF m 149 #[.val (.int p1), .val (.int p2), .val (.int p3), .val (.int (p1 &&& (7 : Int32))), .val (.ref c7), .val (.int (0 : Int32)), .unset, .unset, .unset, .unset] [])) (fun _ k => XS.istore X64.here hx rfl (hb hby at_147) rfl (l' := #[.val (.int p1), .val (.int p2), .val (.int p3), .val (.int (p1 &&& (7 : Int32))), .val (.ref c7), .val (.int (0 : Int32)), .unset, .unset, .unset, .unset]) rfl k) ?_
                refine own_lift (T' := T64) (f' := (mkF m 152 #[.val (.int p1), .val (.int p2), .val (.int p3), .val (.int (p1 &&& (7 : Int32))), .val (.ref c7), .val (.int (0 : Int32)), .unset, .unset, .unset, .unset] [(.int (730 : Int32))])) (fun _ k => XS.sipush X64.here hx rfl (hb hby at_149) k) ?_
                refine own_lift (T' := T64) (f' := (mkF m 154 #[.val (.int p1), .val (.int p2), .val (.int p3), .val (.int (p1 &&& (7 : Int32))), .val (.ref c7), .val (.int (0 : Int32)), .val (.int (730 : Int32)), .unset, .unset, .unset] [])) (fun _ k => XS.istore X64.here hx rfl (hb hby at_152) rfl (l' := #[.val (.int p1), .val (.int p2), .val (.int p3), .val (.int (p1 &&& (7 : Int32))), .val (.ref c7), .val (.int (0 : Int32)), .val (.int (730 : Int32)), .unset, .unset, .unset]) rfl k) ?_
                exact J154 T64 c7 (0 : Int32) (730 : Int32) X64 e64 E_c7 FL_c7 FM_c7
set_option maxRecDepth 65536 in
set_option maxHeartbeats 40000000 in
theorem comes_1 {Post : Tables → Env → Array Value → State → Outcome → State → Prop} (hpost : ∀ tb e args s v u, (limb_1_1.after args s (.returned v) u = true ∧ limb_1_2.after args s (.returned v) u = true ∧ True) → FrameEnd s (.returned v) u (Jvm.fieldLocs frame_1_writes args s ++ Jvm.arrayLocs frame_1_arrays args s ++ Jvm.staticLocs frame_1_statics s) 0 0 → Post tb e args s (.returned v) u) :
    ArmFor flags0 classFile x code maxLocals ret World_1 tables_1 room_1 Calls_1 rest_1 Pre_1 Post := by
  intro l hfl _ _ p e ha hc hk s m args below hf hA hF happ hP
  obtain ⟨hcalls, hrest, hpre⟩ := hP
  obtain ⟨-, -, -, hnamed, -, -, -, hat⟩ := (Spec.applies_iff hf).mp happ
  obtain ⟨hg, hn⟩ := and_e (Cond.before_iff.mp (show (Jvm.Cond.and given_1 narrow_1).before args s = true from hpre))
  obtain ⟨g0, hg⟩ := and_e hg
  obtain ⟨w0, w1, w2, rfl⟩ : ∃ w0 w1 w2 : Value, args = #[w0, w1, w2] := by
    have hs : args.size = 3 := by simpa [Cond.value, given_1] using g0
    obtain ⟨L⟩ := args
    match L, hs with
    | [w0, w1, w2], _ => exact ⟨w0, w1, w2, rfl⟩
  have hw := fun d (hd : d ∈ tables_1) => atoms_spec (ws := Jvm.Cond.code x code maxLocals ret :: tables_1) hat d (List.mem_cons_of_mem _ hd)
  obtain ⟨g1, hg⟩ := and_e hg
  obtain ⟨i0, ei0⟩ := is_v g1
  obtain rfl : w0 = (.int i0) := Option.some.inj ei0
  obtain ⟨g2, hg⟩ := and_e hg
  obtain ⟨i1, ei1⟩ := is_v g2
  obtain rfl : w1 = (.int i1) := Option.some.inj ei1
  obtain ⟨i2, ei2⟩ := is_v hg
  obtain rfl : w2 = (.int i2) := Option.some.inj ei2
  obtain ⟨c0, hn⟩ := and_e hn
  obtain ⟨c1, hn⟩ := and_e hn
  obtain ⟨c2, hn⟩ := and_e hn
  obtain ⟨c3, hn⟩ := and_e hn
  obtain ⟨c4, hn⟩ := and_e hn
  obtain ⟨c5, hn⟩ := and_e hn
  obtain ⟨c6, hn⟩ := and_e hn
  obtain ⟨c7, hn⟩ := and_e hn
  obtain ⟨c8, hn⟩ := and_e hn
  obtain ⟨c9, hn⟩ := and_e hn
  obtain ⟨c10, hn⟩ := and_e hn
  obtain ⟨c11, hn⟩ := and_e hn
  obtain ⟨c12, hn⟩ := and_e hn
  obtain ⟨c13, hn⟩ := and_e hn
  obtain ⟨c14, hn⟩ := and_e hn
  obtain ⟨c15, hn⟩ := and_e hn
  obtain ⟨c16, hn⟩ := and_e hn
  obtain ⟨c17, hn⟩ := and_e hn
  obtain ⟨c18, hn⟩ := and_e hn
  obtain ⟨c19, hn⟩ := and_e hn
  obtain ⟨c20, hn⟩ := and_e hn
  obtain ⟨c21, hn⟩ := and_e hn
  obtain ⟨c22, hn⟩ := and_e hn
  have c23 := hn
  obtain ⟨a_MINIMUM_PIN_LENGTH, ev_MINIMUM_PIN_LENGTH⟩ := exa_v c0
  have S_MINIMUM_PIN_LENGTH : Sta s s.heap "com/example/tandemkey/tandemkey/PinSetting" "MINIMUM_PIN_LENGTH" "Lcom/example/tandemkey/tandemkey/PinSetting;" (.ref a_MINIMUM_PIN_LENGTH) := Sta.start ev_MINIMUM_PIN_LENGTH (Or.inr ⟨(hw _ (List.mem_of_getElem? (i := 1) rfl)), (hw _ (List.mem_of_getElem? (i := 2) rfl))⟩)
  have E_MINIMUM_PIN_LENGTH : Exa s s.heap a_MINIMUM_PIN_LENGTH "com/example/tandemkey/tandemkey/PinSetting" := Exa.start ev_MINIMUM_PIN_LENGTH c0
  obtain ⟨a_MAXIMUM_PIN_LENGTH, ev_MAXIMUM_PIN_LENGTH⟩ := exa_v c3
  have S_MAXIMUM_PIN_LENGTH : Sta s s.heap "com/example/tandemkey/tandemkey/PinSetting" "MAXIMUM_PIN_LENGTH" "Lcom/example/tandemkey/tandemkey/PinSetting;" (.ref a_MAXIMUM_PIN_LENGTH) := Sta.start ev_MAXIMUM_PIN_LENGTH (Or.inr ⟨(hw _ (List.mem_of_getElem? (i := 1) rfl)), (hw _ (List.mem_of_getElem? (i := 13) rfl))⟩)
  have E_MAXIMUM_PIN_LENGTH : Exa s s.heap a_MAXIMUM_PIN_LENGTH "com/example/tandemkey/tandemkey/PinSetting" := Exa.start ev_MAXIMUM_PIN_LENGTH c3
  obtain ⟨a_UPPERCASE_LETTERS, ev_UPPERCASE_LETTERS⟩ := exa_v c6
  have S_UPPERCASE_LETTERS : Sta s s.heap "com/example/tandemkey/tandemkey/PinSetting" "UPPERCASE_LETTERS" "Lcom/example/tandemkey/tandemkey/PinSetting;" (.ref a_UPPERCASE_LETTERS) := Sta.start ev_UPPERCASE_LETTERS (Or.inr ⟨(hw _ (List.mem_of_getElem? (i := 1) rfl)), (hw _ (List.mem_of_getElem? (i := 15) rfl))⟩)
  have E_UPPERCASE_LETTERS : Exa s s.heap a_UPPERCASE_LETTERS "com/example/tandemkey/tandemkey/PinSetting" := Exa.start ev_UPPERCASE_LETTERS c6
  obtain ⟨a_EXPIRATION, ev_EXPIRATION⟩ := exa_v c9
  have S_EXPIRATION : Sta s s.heap "com/example/tandemkey/tandemkey/PinSetting" "EXPIRATION" "Lcom/example/tandemkey/tandemkey/PinSetting;" (.ref a_EXPIRATION) := Sta.start ev_EXPIRATION (Or.inr ⟨(hw _ (List.mem_of_getElem? (i := 1) rfl)), (hw _ (List.mem_of_getElem? (i := 17) rfl))⟩)
  have E_EXPIRATION : Exa s s.heap a_EXPIRATION "com/example/tandemkey/tandemkey/PinSetting" := Exa.start ev_EXPIRATION c9
  obtain ⟨a_DIGITS, ev_DIGITS⟩ := exa_v c11
  have S_DIGITS : Sta s s.heap "com/example/tandemkey/tandemkey/PinSetting" "DIGITS" "Lcom/example/tandemkey/tandemkey/PinSetting;" (.ref a_DIGITS) := Sta.start ev_DIGITS (Or.inr ⟨(hw _ (List.mem_of_getElem? (i := 1) rfl)), (hw _ (List.mem_of_getElem? (i := 19) rfl))⟩)
  have E_DIGITS : Exa s s.heap a_DIGITS "com/example/tandemkey/tandemkey/PinSetting" := Exa.start ev_DIGITS c11
  obtain ⟨a_LOWERCASE_LETTERS, ev_LOWERCASE_LETTERS⟩ := exa_v c13
  have S_LOWERCASE_LETTERS : Sta s s.heap "com/example/tandemkey/tandemkey/PinSetting" "LOWERCASE_LETTERS" "Lcom/example/tandemkey/tandemkey/PinSetting;" (.ref a_LOWERCASE_LETTERS) := Sta.start ev_LOWERCASE_LETTERS (Or.inr ⟨(hw _ (List.mem_of_getElem? (i := 1) rfl)), (hw _ (List.mem_of_getElem? (i := 21) rfl))⟩)
  have E_LOWERCASE_LETTERS : Exa s s.heap a_LOWERCASE_LETTERS "com/example/tandemkey/tandemkey/PinSetting" := Exa.start ev_LOWERCASE_LETTERS c13
  obtain ⟨a_SPECIAL_CHARACTERS, ev_SPECIAL_CHARACTERS⟩ := exa_v c17
  have S_SPECIAL_CHARACTERS : Sta s s.heap "com/example/tandemkey/tandemkey/PinSetting" "SPECIAL_CHARACTERS" "Lcom/example/tandemkey/tandemkey/PinSetting;" (.ref a_SPECIAL_CHARACTERS) := Sta.start ev_SPECIAL_CHARACTERS (Or.inr ⟨(hw _ (List.mem_of_getElem? (i := 1) rfl)), (hw _ (List.mem_of_getElem? (i := 23) rfl))⟩)
  have E_SPECIAL_CHARACTERS : Exa s s.heap a_SPECIAL_CHARACTERS "com/example/tandemkey/tandemkey/PinSetting" := Exa.start ev_SPECIAL_CHARACTERS c17
  obtain ⟨a_HISTORY, ev_HISTORY⟩ := exa_v c20
  have S_HISTORY : Sta s s.heap "com/example/tandemkey/tandemkey/PinSetting" "HISTORY" "Lcom/example/tandemkey/tandemkey/PinSetting;" (.ref a_HISTORY) := Sta.start ev_HISTORY (Or.inr ⟨(hw _ (List.mem_of_getElem? (i := 1) rfl)), (hw _ (List.mem_of_getElem? (i := 25) rfl))⟩)
  have E_HISTORY : Exa s s.heap a_HISTORY "com/example/tandemkey/tandemkey/PinSetting" := Exa.start ev_HISTORY c20
  have F_MINIMUM_PIN_LENGTH_least : Fld s s.heap a_MINIMUM_PIN_LENGTH "com/example/tandemkey/tandemkey/PinSetting" "least" "I" (.int (4 : Int32)) := Fld.start (own_fld ev_MINIMUM_PIN_LENGTH c1)
  have F_MINIMUM_PIN_LENGTH_most : Fld s s.heap a_MINIMUM_PIN_LENGTH "com/example/tandemkey/tandemkey/PinSetting" "most" "I" (.int (127 : Int32)) := Fld.start (own_fld ev_MINIMUM_PIN_LENGTH c2)
  have F_MAXIMUM_PIN_LENGTH_least : Fld s s.heap a_MAXIMUM_PIN_LENGTH "com/example/tandemkey/tandemkey/PinSetting" "least" "I" (.int (4 : Int32)) := Fld.start (own_fld ev_MAXIMUM_PIN_LENGTH c4)
  have F_MAXIMUM_PIN_LENGTH_most : Fld s s.heap a_MAXIMUM_PIN_LENGTH "com/example/tandemkey/tandemkey/PinSetting" "most" "I" (.int (127 : Int32)) := Fld.start (own_fld ev_MAXIMUM_PIN_LENGTH c5)
  have F_UPPERCASE_LETTERS_least : Fld s s.heap a_UPPERCASE_LETTERS "com/example/tandemkey/tandemkey/PinSetting" "least" "I" (.int (0 : Int32)) := Fld.start (own_fld ev_UPPERCASE_LETTERS c7)
  have F_UPPERCASE_LETTERS_most : Fld s s.heap a_UPPERCASE_LETTERS "com/example/tandemkey/tandemkey/PinSetting" "most" "I" (.int (2 : Int32)) := Fld.start (own_fld ev_UPPERCASE_LETTERS c8)
  have F_EXPIRATION_least : Fld s s.heap a_EXPIRATION "com/example/tandemkey/tandemkey/PinSetting" "least" "I" (.int (0 : Int32)) := Fld.start (own_fld ev_EXPIRATION c10)
  have F_DIGITS_least : Fld s s.heap a_DIGITS "com/example/tandemkey/tandemkey/PinSetting" "least" "I" (.int (0 : Int32)) := Fld.start (own_fld ev_DIGITS c12)
  have F_LOWERCASE_LETTERS_least : Fld s s.heap a_LOWERCASE_LETTERS "com/example/tandemkey/tandemkey/PinSetting" "least" "I" (.int (0 : Int32)) := Fld.start (own_fld ev_LOWERCASE_LETTERS c14)
  have F_LOWERCASE_LETTERS_most : Fld s s.heap a_LOWERCASE_LETTERS "com/example/tandemkey/tandemkey/PinSetting" "most" "I" (.int (2 : Int32)) := Fld.start (own_fld ev_LOWERCASE_LETTERS c15)
  have F_DIGITS_most : Fld s s.heap a_DIGITS "com/example/tandemkey/tandemkey/PinSetting" "most" "I" (.int (2 : Int32)) := Fld.start (own_fld ev_DIGITS c16)
  have F_SPECIAL_CHARACTERS_least : Fld s s.heap a_SPECIAL_CHARACTERS "com/example/tandemkey/tandemkey/PinSetting" "least" "I" (.int (0 : Int32)) := Fld.start (own_fld ev_SPECIAL_CHARACTERS c18)
  have F_SPECIAL_CHARACTERS_most : Fld s s.heap a_SPECIAL_CHARACTERS "com/example/tandemkey/tandemkey/PinSetting" "most" "I" (.int (2 : Int32)) := Fld.start (own_fld ev_SPECIAL_CHARACTERS c19)
  have F_HISTORY_least : Fld s s.heap a_HISTORY "com/example/tandemkey/tandemkey/PinSetting" "least" "I" (.int (0 : Int32)) := Fld.start (own_fld ev_HISTORY c21)
  have F_HISTORY_most : Fld s s.heap a_HISTORY "com/example/tandemkey/tandemkey/PinSetting" "most" "I" (.int (50 : Int32)) := Fld.start (own_fld ev_HISTORY c22)
  have F_EXPIRATION_most : Fld s s.heap a_EXPIRATION "com/example/tandemkey/tandemkey/PinSetting" "most" "I" (.int (730 : Int32)) := Fld.start (own_fld ev_EXPIRATION c23)
  obtain ⟨n, o, h1, h2, h3, _, L, rfl, ⟨rfl, rfl, -⟩, hq⟩ := rm0 l s _ hw tables_1 i0 i1 i2 a_MINIMUM_PIN_LENGTH a_MAXIMUM_PIN_LENGTH a_DIGITS a_LOWERCASE_LETTERS a_UPPERCASE_LETTERS a_SPECIAL_CHARACTERS a_HISTORY a_EXPIRATION s.heap S_MINIMUM_PIN_LENGTH S_MAXIMUM_PIN_LENGTH S_DIGITS S_LOWERCASE_LETTERS S_UPPERCASE_LETTERS S_SPECIAL_CHARACTERS S_HISTORY S_EXPIRATION E_MINIMUM_PIN_LENGTH E_MAXIMUM_PIN_LENGTH E_DIGITS E_LOWERCASE_LETTERS E_UPPERCASE_LETTERS E_SPECIAL_CHARACTERS E_HISTORY E_EXPIRATION F_MINIMUM_PIN_LENGTH_least F_MINIMUM_PIN_LENGTH_most F_MAXIMUM_PIN_LENGTH_least F_MAXIMUM_PIN_LENGTH_most F_DIGITS_least F_DIGITS_most F_LOWERCASE_LETTERS_least F_LOWERCASE_LETTERS_most F_UPPERCASE_LETTERS_least F_UPPERCASE_LETTERS_most F_SPECIAL_CHARACTERS_least F_SPECIAL_CHARACTERS_most F_HISTORY_least F_HISTORY_most F_EXPIRATION_least F_EXPIRATION_most p e ha hc hk s m _ below hf ((Spec.applies_iff_loose hf).mp happ).1 ⟨rfl, State.Warmed39.refl s, rfl⟩ trivial
  refine ⟨n, _, h1, h2, h3, hpost _ _ _ _ _ _ ⟨Cond.after_iff.mpr rfl, Cond.after_iff.mpr (eq_i res_at (Term.int_eval (1)) rfl), trivial⟩ ⟨hq.1, hq.2.1, (hq.2.2.sift fun y hy => Or.inr (Fr.nil s.heap.size y hy)).mono (by decide) (by decide)⟩⟩
theorem main_1_1 : Claimed_1_1 := comes_1 fun _ _ _ _ _ _ h hF => ⟨h.1, hF⟩
theorem main_1_2 : Claimed_1_2 := comes_1 fun _ _ _ _ _ _ h hF => ⟨h.2.1, hF⟩
end Jvm.Pilot.@@N@@
namespace Jvm.Pilot.@@N@@
open Jvm Jvm.ClassFile Sem Op Lib Jvm.Free Jvm.Stand Jvm.Pilot.@@N@@.Jvm.D
/-! MADE BY PROGRAM (witnessworld.py) out of the Statement's table words and the real class files: 10 classes; the members and pool entries that the words name. The judged class is class 1, her method 1. -/
namespace start1
open Jvm.ClassFile
def u (s : String) : CpInfo := .utf8 (stringToUtf16 s)
/-- a pool by its gaps: so many unusable entries, then the entry; so many at the end -/
def gap : Nat → List CpInfo → List CpInfo
  | 0, r => r
  | n + 1, r => .unusable :: gap n r
def poolList (es : List (Nat × CpInfo)) (last : Nat) : List CpInfo := es.foldr (fun e r => gap e.1 (e.2 :: r)) (gap last [])
def pool (es : List (Nat × CpInfo)) (last : Nat) : Array CpInfo := ⟨poolList es last⟩
def fileOf (pool : Array CpInfo) (this : Nat) (attrs : Array Attribute := #[]) (ms : Array MethodInfo := #[]) (fl : Nat := 33) (sup : Nat := 0) (ifs : Array Nat := #[]) (fds : Array FieldInfo := #[]) : ClassFile where
  minorVersion := 0
  majorVersion := 65
  constantPool := pool
  accessFlags := fl
  thisClass := this
  superClass := sup
  interfaces := ifs
  fields := fds
  methods := ms
  attributes := attrs
def plain (name : String) (sup : Option ClassId) : Class where
  name := name
  kind := .ordinary
  loader := none
  accessFlags := 33
  super := sup
  interfaces := #[]
  cf := none
  fields := #[]
  methods := #[]
  instanceTypes := #[]
  staticTypes := #[]
  resolved := #[]
  callSites := []
  init := .initialized
  statics := none
  mirror := none

def pool0 : Array CpInfo := pool [(5, u "<init>"), (0, u "()V"), (1, .class_ 10), (1, u "java/lang/Object")] 113

def k0m0 : Method := { name := "<init>", desc := "()V", sig := { parameters := [], returnType := none }, accessFlags := 1, code := none }
/-- java/lang/Object -/
def k0 : Class := { plain "java/lang/Object" none with
  accessFlags := 33
  interfaces := #[]
  cf := some (fileOf pool0 8 #[] #[{ accessFlags := 1, nameIndex := 5, descriptorIndex := 6, attributes := #[] }] 33 0 #[] #[])
  fields := #[]
  methods := #[k0m0]
  instanceTypes := #[]
  staticTypes := #[]
  resolved := Array.replicate 124 none
  statics := none }

def pool1 : Array CpInfo := pool [(2, .class_ 4), (1, u "java/lang/Object"), (0, u "<init>"), (0, u "()V"), (0, .fieldref 8 9), (0, .class_ 10), (0, .nameAndType 11 12), (0, u "com/example/tandemkey/tandemkey/PinSetting"), (0, u "MINIMUM_PIN_LENGTH"), (0, u "Lcom/example/tandemkey/tandemkey/PinSetting;"), (0, .fieldref 8 14), (0, .nameAndType 15 12), (0, u "MAXIMUM_PIN_LENGTH"), (0, .fieldref 8 17), (0, .nameAndType 18 12), (0, u "DIGITS"), (0, .fieldref 8 20), (0, .nameAndType 21 12), (0, u "LOWERCASE_LETTERS"), (0, .fieldref 8 23), (0, .nameAndType 24 12), (0, u "UPPERCASE_LETTERS"), (0, .fieldref 8 26), (0, .nameAndType 27 12), (0, u "SPECIAL_CHARACTERS"), (0, .fieldref 8 29), (0, .nameAndType 30 12), (0, u "HISTORY"), (0, .fieldref 8 32), (0, .nameAndType 33 12), (0, u "EXPIRATION"), (0, .methodref 8 35), (0, .nameAndType 36 37), (0, u "inRange"), (0, u "(I)Z"), (0, .class_ 39), (0, u "com/example/tandemkey/tandemkey/PinSettingInRangePinLaw"), (2, u "law"), (0, u "(III)Z")] 3

def k1m0 : Method := { name := "<init>", desc := "()V", sig := { parameters := [], returnType := none }, accessFlags := 1, code := none }
def k1c1 : Code := { maxStack := 3, maxLocals := 10, code := code, exceptionTable := #[], attributes := #[] }
def k1m1 : Method := { name := "law", desc := "(III)Z", sig := { parameters := [.int, .int, .int], returnType := some .boolean }, accessFlags := 9, code := some k1c1 }
/-- com/example/tandemkey/tandemkey/PinSettingInRangePinLaw -/
def k1 : Class := { plain "com/example/tandemkey/tandemkey/PinSettingInRangePinLaw" (some 0) with
  accessFlags := 49
  interfaces := #[]
  cf := some (fileOf pool1 38 #[] #[{ accessFlags := 1, nameIndex := 5, descriptorIndex := 6, attributes := #[] }, { accessFlags := 9, nameIndex := 42, descriptorIndex := 43, attributes := #[] }] 49 2 #[] #[])
  fields := #[]
  methods := #[k1m0, k1m1]
  instanceTypes := #[]
  staticTypes := #[]
  resolved := Array.replicate 47 none
  statics := none }

def pool2 : Array CpInfo := pool [(1, .class_ 2), (0, u "java/lang/constant/Constable"), (0, .class_ 4), (0, u "java/lang/Object")] 6

/-- java/lang/constant/Constable -/
def k2 : Class := { plain "java/lang/constant/Constable" (some 0) with
  accessFlags := 1537
  interfaces := #[]
  cf := some (fileOf pool2 1 #[] #[] 1537 3 #[] #[])
  fields := #[]
  methods := #[]
  instanceTypes := #[]
  staticTypes := #[]
  resolved := Array.replicate 11 none
  statics := none }

def pool3 : Array CpInfo := pool [(1, .class_ 2), (0, u "java/lang/Comparable"), (0, .class_ 4), (0, u "java/lang/Object")] 7

/-- java/lang/Comparable -/
def k3 : Class := { plain "java/lang/Comparable" (some 0) with
  accessFlags := 1537
  interfaces := #[]
  cf := some (fileOf pool3 1 #[] #[] 1537 3 #[] #[])
  fields := #[]
  methods := #[]
  instanceTypes := #[]
  staticTypes := #[]
  resolved := Array.replicate 12 none
  statics := none }

def pool4 : Array CpInfo := pool [(1, .class_ 2), (0, u "java/io/Serializable"), (0, .class_ 4), (0, u "java/lang/Object")] 2

/-- java/io/Serializable -/
def k4 : Class := { plain "java/io/Serializable" (some 0) with
  accessFlags := 1537
  interfaces := #[]
  cf := some (fileOf pool4 1 #[] #[] 1537 3 #[] #[])
  fields := #[]
  methods := #[]
  instanceTypes := #[]
  staticTypes := #[]
  resolved := Array.replicate 7 none
  statics := none }

def pool5 : Array CpInfo := pool [(2, .class_ 4), (1, u "java/lang/Enum"), (0, u "name"), (0, u "Ljava/lang/String;"), (2, u "ordinal"), (0, u "I"), (1, .class_ 14), (1, u "java/lang/Object"), (4, u "hash"), (86, .class_ 108), (1, u "java/lang/Enum$EnumDesc"), (2, .class_ 112), (0, u "java/lang/constant/Constable"), (0, .class_ 114), (0, u "java/lang/Comparable"), (0, .class_ 116), (0, u "java/io/Serializable")] 87

/-- java/lang/Enum -/
def k5 : Class := { plain "java/lang/Enum" (some 0) with
  accessFlags := 1057
  interfaces := #[2, 3, 4]
  cf := some (fileOf pool5 2 #[.nestMembers #[106]] #[] 1057 12 #[111, 113, 115] #[{ accessFlags := 18, nameIndex := 5, descriptorIndex := 6, attributes := #[] }, { accessFlags := 18, nameIndex := 9, descriptorIndex := 10, attributes := #[] }, { accessFlags := 2, nameIndex := 19, descriptorIndex := 10, attributes := #[] }])
  fields := #[{ name := "name", type := (.object "java/lang/String"), accessFlags := 18, slot := 0, constantValue := 0 }, { name := "ordinal", type := .int, accessFlags := 18, slot := 1, constantValue := 0 }, { name := "hash", type := .int, accessFlags := 2, slot := 2, constantValue := 0 }]
  methods := #[]
  instanceTypes := #[(.object "java/lang/String"), .int, .int]
  staticTypes := #[]
  resolved := Array.replicate 204 none
  statics := none }

def pool6 : Array CpInfo := pool [(1, .class_ 2), (0, u "com/example/tandemkey/tandemkey/PinSetting"), (2, u "MINIMUM_PIN_LENGTH"), (0, u "Lcom/example/tandemkey/tandemkey/PinSetting;"), (2, u "MAXIMUM_PIN_LENGTH"), (2, u "DIGITS"), (2, u "LOWERCASE_LETTERS"), (2, u "UPPERCASE_LETTERS"), (2, u "SPECIAL_CHARACTERS"), (2, u "HISTORY"), (2, u "EXPIRATION"), (2, u "$VALUES"), (0, u "[Lcom/example/tandemkey/tandemkey/PinSetting;"), (6, .class_ 40), (1, u "java/lang/Enum"), (8, u "nodeName"), (0, u "Ljava/lang/String;"), (0, .fieldref 1 52), (0, .nameAndType 53 54), (0, u "least"), (0, u "I"), (0, .fieldref 1 56), (0, .nameAndType 57 54), (0, u "most"), (2, u "notConfigured"), (2, u "characters"), (0, u "Ljava/util/function/IntPredicate;"), (9, u "(I)Z"), (6, u "REQUIREMENTS"), (0, u "[Ljava/lang/String;"), (51, u "ALLOWED"), (2, u "REQUIRED"), (1, u "DISALLOWED"), (13, u "inRange")] 46

def k6c0 : Code := { maxStack := 2, maxLocals := 2, code := prog_34_method_8_code, exceptionTable := #[], attributes := #[] }
def k6m0 : Method := { name := "inRange", desc := "(I)Z", sig := { parameters := [.int], returnType := some .boolean }, accessFlags := 0, code := some k6c0 }
/-- com/example/tandemkey/tandemkey/PinSetting -/
def k6 : Class := { plain "com/example/tandemkey/tandemkey/PinSetting" (some 5) with
  accessFlags := 16432
  interfaces := #[]
  cf := some (fileOf pool6 1 #[] #[{ accessFlags := 0, nameIndex := 153, descriptorIndex := 74, attributes := #[] }] 16432 38 #[] #[{ accessFlags := 16409, nameIndex := 5, descriptorIndex := 6, attributes := #[] }, { accessFlags := 16409, nameIndex := 9, descriptorIndex := 6, attributes := #[] }, { accessFlags := 16409, nameIndex := 12, descriptorIndex := 6, attributes := #[] }, { accessFlags := 16409, nameIndex := 15, descriptorIndex := 6, attributes := #[] }, { accessFlags := 16409, nameIndex := 18, descriptorIndex := 6, attributes := #[] }, { accessFlags := 16409, nameIndex := 21, descriptorIndex := 6, attributes := #[] }, { accessFlags := 16409, nameIndex := 24, descriptorIndex := 6, attributes := #[] }, { accessFlags := 16409, nameIndex := 27, descriptorIndex := 6, attributes := #[] }, { accessFlags := 24, nameIndex := 134, descriptorIndex := 54, attributes := #[] }, { accessFlags := 24, nameIndex := 137, descriptorIndex := 54, attributes := #[] }, { accessFlags := 24, nameIndex := 139, descriptorIndex := 54, attributes := #[] }, { accessFlags := 26, nameIndex := 81, descriptorIndex := 82, attributes := #[] }, { accessFlags := 18, nameIndex := 49, descriptorIndex := 50, attributes := #[] }, { accessFlags := 18, nameIndex := 53, descriptorIndex := 54, attributes := #[] }, { accessFlags := 18, nameIndex := 57, descriptorIndex := 54, attributes := #[] }, { accessFlags := 18, nameIndex := 60, descriptorIndex := 54, attributes := #[] }, { accessFlags := 18, nameIndex := 63, descriptorIndex := 64, attributes := #[] }, { accessFlags := 4122, nameIndex := 30, descriptorIndex := 31, attributes := #[] }])
  fields := #[{ name := "MINIMUM_PIN_LENGTH", type := (.object "com/example/tandemkey/tandemkey/PinSetting"), accessFlags := 16409, slot := 0, constantValue := 0 }, { name := "MAXIMUM_PIN_LENGTH", type := (.object "com/example/tandemkey/tandemkey/PinSetting"), accessFlags := 16409, slot := 1, constantValue := 0 }, { name := "DIGITS", type := (.object "com/example/tandemkey/tandemkey/PinSetting"), accessFlags := 16409, slot := 2, constantValue := 0 }, { name := "LOWERCASE_LETTERS", type := (.object "com/example/tandemkey/tandemkey/PinSetting"), accessFlags := 16409, slot := 3, constantValue := 0 }, { name := "UPPERCASE_LETTERS", type := (.object "com/example/tandemkey/tandemkey/PinSetting"), accessFlags := 16409, slot := 4, constantValue := 0 }, { name := "SPECIAL_CHARACTERS", type := (.object "com/example/tandemkey/tandemkey/PinSetting"), accessFlags := 16409, slot := 5, constantValue := 0 }, { name := "HISTORY", type := (.object "com/example/tandemkey/tandemkey/PinSetting"), accessFlags := 16409, slot := 6, constantValue := 0 }, { name := "EXPIRATION", type := (.object "com/example/tandemkey/tandemkey/PinSetting"), accessFlags := 16409, slot := 7, constantValue := 0 }, { name := "ALLOWED", type := .int, accessFlags := 24, slot := 8, constantValue := 0 }, { name := "REQUIRED", type := .int, accessFlags := 24, slot := 9, constantValue := 0 }, { name := "DISALLOWED", type := .int, accessFlags := 24, slot := 10, constantValue := 0 }, { name := "REQUIREMENTS", type := (.array (.object "java/lang/String")), accessFlags := 26, slot := 11, constantValue := 0 }, { name := "nodeName", type := (.object "java/lang/String"), accessFlags := 18, slot := 3, constantValue := 0 }, { name := "least", type := .int, accessFlags := 18, slot := 4, constantValue := 0 }, { name := "most", type := .int, accessFlags := 18, slot := 5, constantValue := 0 }, { name := "notConfigured", type := .int, accessFlags := 18, slot := 6, constantValue := 0 }, { name := "characters", type := (.object "java/util/function/IntPredicate"), accessFlags := 18, slot := 7, constantValue := 0 }, { name := "$VALUES", type := (.array (.object "com/example/tandemkey/tandemkey/PinSetting")), accessFlags := 4122, slot := 12, constantValue := 0 }]
  methods := #[k6m0]
  instanceTypes := #[(.object "java/lang/String"), .int, .int, (.object "java/lang/String"), .int, .int, .int, (.object "java/util/function/IntPredicate")]
  staticTypes := #[(.object "com/example/tandemkey/tandemkey/PinSetting"), (.object "com/example/tandemkey/tandemkey/PinSetting"), (.object "com/example/tandemkey/tandemkey/PinSetting"), (.object "com/example/tandemkey/tandemkey/PinSetting"), (.object "com/example/tandemkey/tandemkey/PinSetting"), (.object "com/example/tandemkey/tandemkey/PinSetting"), (.object "com/example/tandemkey/tandemkey/PinSetting"), (.object "com/example/tandemkey/tandemkey/PinSetting"), .int, .int, .int, (.array (.object "java/lang/String")), (.array (.object "com/example/tandemkey/tandemkey/PinSetting"))]
  resolved := Array.replicate 200 none
  statics := some 0 }

def pool7 : Array CpInfo := pool [(1, u "java/lang/Cloneable"), (0, .class_ 1), (0, u "java/lang/Object"), (0, .class_ 3)] 3

/-- java/lang/Cloneable -/
def k7 : Class := { plain "java/lang/Cloneable" (some 0) with
  accessFlags := 1537
  interfaces := #[]
  cf := some (fileOf pool7 2 #[] #[] 1537 4 #[] #[])
  fields := #[]
  methods := #[]
  instanceTypes := #[]
  staticTypes := #[]
  resolved := Array.replicate 8 none
  statics := none }

/-- the primitive byte -/
def k8 : Class := { plain "byte" none with kind := .primitive 'B', accessFlags := 0x411 }
/-- [B -/
def k9 : Class := { plain "[B" (some 0) with kind := .array 8 .byte, interfaces := #[7, 4], accessFlags := 1041 }

def heap : Heap := #[{ cls := 6, slots := #[.ref 1, .ref 2, .ref 3, .ref 4, .ref 5, .ref 6, .ref 7, .ref 8, .int 0, .int 0, .int 0, .null, .null], vm := .statics 6 },
  { cls := 6, slots := #[.null, .int 0, .int 0, .null, .int 4, .int 127, .int 0, .null], vm := .none },
  { cls := 6, slots := #[.null, .int 1, .int 0, .null, .int 4, .int 127, .int 0, .null], vm := .none },
  { cls := 6, slots := #[.null, .int 2, .int 0, .null, .int 0, .int 2, .int 0, .null], vm := .none },
  { cls := 6, slots := #[.null, .int 3, .int 0, .null, .int 0, .int 2, .int 0, .null], vm := .none },
  { cls := 6, slots := #[.null, .int 4, .int 0, .null, .int 0, .int 2, .int 0, .null], vm := .none },
  { cls := 6, slots := #[.null, .int 5, .int 0, .null, .int 0, .int 2, .int 0, .null], vm := .none },
  { cls := 6, slots := #[.null, .int 6, .int 0, .null, .int 0, .int 50, .int 0, .null], vm := .none },
  { cls := 6, slots := #[.null, .int 7, .int 0, .null, .int 0, .int 730, .int 0, .null], vm := .none }]
def classes : Array Class := #[k0, k1, k2, k3, k4, k5, k6, k7, k8, k9]
def interned : List (Array UInt16 × Addr) := []
def slotsUsed : Nat := 77
def theMethod : MethodId := ⟨1, 1⟩
def args0 : Array Value := #[.int 5, .int 6, .int 7]
def aboutOver (below : List Frame) : State where
  vm := { classes := classes, interned := interned.toArray }
  heap := heap
  slotsUsed := slotsUsed
  threads := #[{ frames := .invoking theMethod args0 :: below }]
def below0 : List Frame := [.native { method := ⟨0, 0⟩, args := #[] }]
def about1 : State := aboutOver below0
def p0 : Program := .bare "" "" ""
def e0 : Env := launch0.env 0 0 0
theorem w_frames : about1.frames = Frame.invoking theMethod args0 :: below0 := rfl
set_option maxRecDepth 65536 in
theorem w_args : argsFit about1.vm theMethod args0 = true := by decide +kernel
set_option maxRecDepth 65536 in
theorem w_heap : heapFits about1 = true := by decide +kernel
set_option maxRecDepth 65536 in
theorem w_runnable : about1.curStatus? = some .runnable := by decide +kernel
set_option maxRecDepth 65536 in
theorem w_alone : about1.alone = true := by decide +kernel
set_option maxRecDepth 65536 in
theorem w_named : about1.methodNamed? x = some theMethod := by decide +kernel
set_option maxRecDepth 65536 in
theorem w_hears : about1.hears theMethod below0 = true := by decide +kernel
set_option maxRecDepth 65536 in
theorem w_ripe : about1.ripe theMethod args0 below0 = true := by decide +kernel
theorem w_running : about1.status = .running := rfl
set_option maxRecDepth 65536 in
theorem w_room : about1.hasRoom e0.platform room_1 = true :=
  launch0.hasRoom_least _ room_1 (by decide +kernel) (by decide +kernel) (by decide +kernel) (by decide +kernel) (by decide +kernel) (by decide +kernel)
theorem allAtoms_all (ts : List Jvm.Cond) (a : Array Jvm.Value) (st : Jvm.State) : (allAtoms ts).before a st = ts.all (fun c => c.before a st) := by
  induction ts with
  | nil => rfl
  | cons c t ih =>
    show (Jvm.Cond.and c (allAtoms t)).before a st = _
    rw [Jvm.Cond.before_and, ih, List.all_cons]
def words1 : List Jvm.Cond := Jvm.Cond.code x code maxLocals ret :: tables_1
/-- a 'code' word, met by the world's own term for the bytes: nothing is compared byte by byte -/
theorem code_word {y : MethodName} {bytes : ByteArray} {mx : Nat} {rt : Option FieldType} {a : Array Value} {s : State} {m : MethodId} {meth : Method} {c : Code} (h1 : s.methodNamed? y = some m) (h2 : s.vm.method? m = some meth) (h3 : meth.code = some c) (h4 : c.code = bytes)
    (h5 : (c.maxLocals == mx && c.exceptionTable.isEmpty && decide (c.maxStack ≤ mostOperands) && decide (meth.sig.returnType = rt) && !meth.locks && decide (parseMethodDescriptor y.desc = some meth.sig)) = true) : (Jvm.Cond.code y bytes mx rt).before a s = true := by
  simp only [Bool.and_eq_true, beq_iff_eq, Bool.not_eq_true', decide_eq_true_eq] at h5
  obtain ⟨⟨⟨⟨⟨g1, g2⟩, g3⟩, g4⟩, g5⟩, g6⟩ := h5
  simp [Cond.before, Cond.holds, Cond.value, h1, h2, h3, h4, g1, g2, g3, g4, g5, g6]
def isCode : Jvm.Cond → Bool
  | .code _ _ _ _ => true
  | _ => false
theorem all_split {L : List Jvm.Cond} {P : Jvm.Cond → Bool} (h1 : L.all (fun c => isCode c || P c) = true) (h2 : ∀ c ∈ L.filter isCode, P c = true) : L.all P = true := by
  refine List.all_eq_true.mpr fun c hc => ?_
  have h := List.all_eq_true.mp h1 c hc
  rcases Bool.eq_false_or_eq_true (isCode c) with hi | hi
  · exact h2 c (List.mem_filter.mpr ⟨hc, hi⟩)
  · simpa [hi] using h
set_option maxRecDepth 65536 in
theorem w_c0 : (Jvm.Cond.code x code maxLocals ret).before args0 about1 = true := code_word (m := ⟨1, 1⟩) (meth := k1m1) (c := k1c1) (by decide +kernel) rfl rfl rfl (by decide +kernel)
set_option maxRecDepth 65536 in
theorem w_c1 : (Jvm.Cond.code ({ cls := "com/example/tandemkey/tandemkey/PinSetting", name := "inRange", desc := "(I)Z" } : Jvm.MethodName) prog_34_method_8_code (2 : Nat) (Option.some Jvm.ClassFile.FieldType.boolean)).before args0 about1 = true := code_word (m := ⟨6, 0⟩) (meth := k6m0) (c := k6c0) (by decide +kernel) rfl rfl rfl (by decide +kernel)
def codes1 : List Jvm.Cond := [Jvm.Cond.code x code maxLocals ret, Jvm.Cond.code ({ cls := "com/example/tandemkey/tandemkey/PinSetting", name := "inRange", desc := "(I)Z" } : Jvm.MethodName) prog_34_method_8_code (2 : Nat) (Option.some Jvm.ClassFile.FieldType.boolean)]
set_option maxRecDepth 65536 in
theorem codes_eq : words1.filter isCode = codes1 := rfl
theorem w_codes : ∀ c ∈ words1.filter isCode, c.before args0 about1 = true := by
  rw [codes_eq]
  intro c hc
  simp only [codes1, List.mem_cons, List.not_mem_nil, or_false] at hc
  rcases hc with rfl | rfl
  · exact w_c0
  · exact w_c1
set_option maxRecDepth 65536 in
theorem w_t1 : (words1.take 24).all (fun c => isCode c || c.before args0 about1) = true := by decide +kernel
set_option maxRecDepth 65536 in
theorem w_t2 : (words1.drop 24).all (fun c => isCode c || c.before args0 about1) = true := by decide +kernel
theorem w_tables : (allAtoms (Jvm.Cond.code x code maxLocals ret :: tables_1)).before args0 about1 = true := by
  rw [allAtoms_all]
  show words1.all (fun c => c.before args0 about1) = true
  refine all_split ?_ w_codes
  rw [← List.take_append_drop 24 words1, List.all_append, w_t1, w_t2]
  rfl
set_option maxRecDepth 65536 in
theorem w_case : (Jvm.Cond.and given_1 narrow_1).before args0 about1 = true := by decide +kernel
theorem w_applies : (headSpec (Jvm.Cond.code x code maxLocals ret :: tables_1) room_1).applies x e0.platform about1 = true :=
  (Spec.applies_iff w_frames).mpr ⟨w_running, w_runnable, w_alone, w_named, w_hears, w_ripe, w_room, w_tables⟩
theorem atStart : AtStart classFile x code maxLocals ret World_1 tables_1 room_1 Calls_1 rest_1 Pre_1 launch0 p0 e0 about1 theMethod args0 below0 :=
  ⟨lists_1, trivial, launch0.admits_env _ _ _, launch0.least_env, fairChoices_fair.cas, fairChoices_fair.clock, w_frames, w_args, w_heap, w_applies, trivial, trivial, w_case⟩
end start1
theorem witness_1 : WitnessClaimed_1 := ⟨start1.p0, start1.e0, start1.about1, start1.theMethod, start1.args0, start1.below0, start1.atStart⟩
end Jvm.Pilot.@@N@@
