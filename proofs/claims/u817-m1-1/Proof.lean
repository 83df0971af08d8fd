import JvmDerived
import JvmDerived.Pilot.@@N@@Statement
import JvmDerived.Pilot.@@N@@Code
set_option linter.unusedVariables false
set_option linter.unusedSimpArgs false
namespace Jvm.Pilot.@@N@@
open Jvm Jvm.ClassFile Sem Op Lib Jvm.Free Jvm.Stand Jvm.LawKit Jvm.RoadKit Bundle Jvm.Pilot.@@N@@.Jvm.D
/-! the run comes from here to an end at which Q holds -/
def own_Comes (p : Program) (e : Env) (below : List Frame) (Q : Outcome → State → Prop) (T : State) (f : JFrame) : Prop :=
  ∃ s₂ o, Steps p.tables e below (T.setTop f) s₂ ∧ s₂.status = .running ∧ Ended s₂ below o ∧ Q o s₂
theorem own_lift {p : Program} {e : Env} {below : List Frame} {Q : Outcome → State → Prop} {T T' : State} {f f' : JFrame} (st : ∀ t, Steps p.tables e below (T'.setTop f') t → Steps p.tables e below (T.setTop f) t) (h : own_Comes p e below Q T' f') : own_Comes p e below Q T f := by
  obtain ⟨s₂, o, a, b⟩ := h
  exact ⟨s₂, o, st _ a, b⟩
theorem own_start {p : Program} {e : Env} {below : List Frame} {Q : Outcome → State → Prop} {T : State} {g g' : JFrame} (q : g = g') (h : own_Comes p e below Q T g') : ∃ s₂ o, Steps p.tables e below (T.setTop g) s₂ ∧ s₂.status = .running ∧ Ended s₂ below o ∧ Q o s₂ := by
  subst q; exact h
/-! what a body that writes and makes nothing leaves -/
def own_Q (val : Value) (h0 : Heap) (v : Option Value) (h : Heap) (L : List Loc) : Prop := v = some val ∧ L = [] ∧ h = h0
def own_End (val : Value) (h0 : Heap) (s : State) (R : Room) (o : Outcome) (U' : State) : Prop := ∃ v L, o = .returned v ∧ own_Q val h0 v U'.heap L ∧ FrameEnd s o U' L R.cells R.slots
section OwnRet
variable {p : Program} {l : Launch} {e : Env} {R : Room} {s : State} {m : MethodId} {args : Array Value} {below : List Frame} {meth : Method} {c : Code} {T : State}
theorem own_ret (X : Stand p l e R s m args below meth c T [] 0 0) (hx : p.tables.exec = Jvm.exec) (hlk : meth.locks = false) {pc : Nat} {Ls : Array Slot} {w : Value} {t : FieldType} {i : Instr} {rest : List Value} (hret : meth.sig.returnType = some t) (hn : narrow t w = w)
    (hi : (i = .ireturn ∧ (t = .int ∨ t = .boolean ∨ t = .byte ∨ t = .char ∨ t = .short) ∧ ∃ z, w = .int z) ∨ (i = .lreturn ∧ t = .long ∧ ∃ z, w = .long z) ∨ (i = .dreturn ∧ t = .double ∧ ∃ z, w = .double z) ∨ (i = .freturn ∧ t = .float ∧ ∃ z, w = .float z) ∨ (i = .areturn ∧ t.isReference = true ∧ w.isRef = true))
    (hd : decode c.code pc = .ok (i, 1)) {h0 : Heap} (eT : T.heap = h0) {val : Value} (hval : val = w) : own_Comes p e below (own_End val h0 s R) T (mkF m pc Ls (w :: rest)) := by
  subst hval
  obtain ⟨fs, hr, hrun, hended, hW, hsame⟩ := X.leave (v := some val) (fun h => by rw [hret] at h; cases h) hlk
  exact ⟨_, _, retOut X hx hret hn hi hd hr, hrun, hended, _, _, rfl, ⟨rfl, rfl, eT⟩, ⟨_, rfl⟩, hW, hsame.mono (Nat.zero_le _) (Nat.zero_le _)⟩
theorem own_retZ (X : Stand p l e R s m args below meth c T [] 0 0) (hx : p.tables.exec = Jvm.exec) (hlk : meth.locks = false) {pc : Nat} {Ls : Array Slot} {z : Int32} {rest : List Value} (hret : meth.sig.returnType = some .boolean) (hd : decode c.code pc = .ok (.ireturn, 1)) {h0 : Heap} (eT : T.heap = h0) (hz : z &&& 1 = z) {val : Value} (hval : val = .int z) : own_Comes p e below (own_End val h0 s R) T (mkF m pc Ls (.int z :: rest)) :=
  own_ret X hx hlk hret (by show Value.int (z &&& 1) = .int z; rw [hz]) (Or.inl ⟨rfl, by simp, z, rfl⟩) hd eT hval
theorem own_retI (X : Stand p l e R s m args below meth c T [] 0 0) (hx : p.tables.exec = Jvm.exec) (hlk : meth.locks = false) {pc : Nat} {Ls : Array Slot} {z : Int32} {rest : List Value} (hret : meth.sig.returnType = some .int) (hd : decode c.code pc = .ok (.ireturn, 1)) {h0 : Heap} (eT : T.heap = h0) {val : Value} (hval : val = .int z) : own_Comes p e below (own_End val h0 s R) T (mkF m pc Ls (.int z :: rest)) :=
  own_ret X hx hlk hret rfl (Or.inl ⟨rfl, by simp, z, rfl⟩) hd eT hval
theorem own_retA (X : Stand p l e R s m args below meth c T [] 0 0) (hx : p.tables.exec = Jvm.exec) (hlk : meth.locks = false) {pc : Nat} {Ls : Array Slot} {w : Value} {C : String} {rest : List Value} (hret : meth.sig.returnType = some (.object C)) (hd : decode c.code pc = .ok (.areturn, 1)) {h0 : Heap} (eT : T.heap = h0) (hw : w.isRef = true) {val : Value} (hval : val = w) : own_Comes p e below (own_End val h0 s R) T (mkF m pc Ls (w :: rest)) :=
  own_ret X hx hlk hret rfl (Or.inr (Or.inr (Or.inr (Or.inr ⟨rfl, rfl, hw⟩)))) hd eT hval
end OwnRet
/-! the same where a body makes objects: what it leaves is any Q -/
def own_EndG (Q : Option Value → Heap → List Loc → Prop) (s : State) (R : Room) (o : Outcome) (U' : State) : Prop := ∃ v L, o = .returned v ∧ Q v U'.heap L ∧ FrameEnd s o U' L R.cells R.slots
theorem own_retG {p : Program} {l : Launch} {e : Env} {R : Room} {s : State} {m : MethodId} {args : Array Value} {below : List Frame} {meth : Method} {c : Code} {T : State} {locs : List Loc} {cells slots : Nat} (X : Stand p l e R s m args below meth c T locs cells slots) (hx : p.tables.exec = Jvm.exec) (hlk : meth.locks = false) {pc : Nat} {Ls : Array Slot} {w : Value} {t : FieldType} {i : Instr} {rest : List Value} (hret : meth.sig.returnType = some t) (hn : narrow t w = w)
    (hi : (i = .ireturn ∧ (t = .int ∨ t = .boolean ∨ t = .byte ∨ t = .char ∨ t = .short) ∧ ∃ z, w = .int z) ∨ (i = .lreturn ∧ t = .long ∧ ∃ z, w = .long z) ∨ (i = .dreturn ∧ t = .double ∧ ∃ z, w = .double z) ∨ (i = .freturn ∧ t = .float ∧ ∃ z, w = .float z) ∨ (i = .areturn ∧ t.isReference = true ∧ w.isRef = true))
    (hd : decode c.code pc = .ok (i, 1)) {Q : Option Value → Heap → List Loc → Prop} (hQ : Q (some w) T.heap locs) (hc : cells ≤ R.cells) (hs : slots ≤ R.slots) : own_Comes p e below (own_EndG Q s R) T (mkF m pc Ls (w :: rest)) := by
  obtain ⟨fs, hr, hrun, hended, hW, hsame⟩ := X.leave (v := some w) (fun h => by rw [hret] at h; cases h) hlk
  exact ⟨_, _, retOut X hx hret hn hi hd hr, hrun, hended, _, _, rfl, hQ, ⟨_, rfl⟩, hW, hsame.mono hc hs⟩
/-! what a case says of a field of an object, as a value -/
theorem own_fld {args : Array Value} {s : State} {t : Term} {C n d : String} {a : Addr} {k : Int32} (ev : t.eval args s none [] s = some (.ref a)) (h : (Jvm.Cond.eq (.field t C n d) (.int k)).value args s none s [] = some true) : s.fieldOf? a C n d = some (.int k) := by
  obtain ⟨x, y, hx, hy, -, hk⟩ := cmp_v (Or.inl h)
  have hy2 : some (Value.int k) = some y := (Term.int_eval k).symm.trans hy
  cases hy2
  obtain ⟨z, rfl⟩ : ∃ z, x = .int z := hk
  have q : (Jvm.Cond.eq (.field t C n d) (.int k)).value args s none s [] = some (decide (z = k)) := by simp [Cond.value, hx, hy]
  obtain rfl : z = k := gotT q h
  rw [fld_at ev] at hx; exact hx
def own_Qv (Z : State) (cl : Cell) (n0 : Nat) (h0 : Heap) (v : Option Value) (h : Heap) (L : List Loc) : Prop := ∃ b, v = some (.ref b) ∧ Fr n0 L ∧ Ext h0 h ∧ Arr Z h b (cloneOf cl) (.object "com/example/hashkeep/hashkeep/store/DigestAlgorithm")
def own_Qo (Z : State) (pv : Value) (n0 : Nat) (h0 : Heap) (v : Option Value) (h : Heap) (L : List Loc) : Prop := ∃ b, v = some (.ref b) ∧ Fr n0 L ∧ Ext h0 h ∧ Exa Z h b "java/util/Optional" ∧ Fld Z h b "java/util/Optional" "value" "Ljava/lang/Object;" pv
def own_Ql (n0 : Nat) (v : Option Value) (h : Heap) (L : List Loc) : Prop := v = some (.int 1) ∧ Fr n0 L
theorem own_ext_refl (h : Heap) : Ext h h := ⟨Nat.le_refl _, fun _ _ q => q⟩
theorem own_ext_trans {h h' h'' : Heap} (E : Ext h h') (E' : Ext h' h'') : Ext h h'' := ⟨Nat.le_trans E.1 E'.1, fun a c q => E'.2 a c (E.2 a c q)⟩
theorem own_ext_keep {h h' : Heap} (K : Keep h h' []) : Ext h h' := ⟨K.1, fun a c q => K.2.1 a c q (fun z => nomatch z)⟩
theorem own_len {args : Array Value} {s : State} {t : Term} {a : Addr} {cl : Cell} (ev : t.eval args s none [] s = some (.ref a)) (ha : s.arrayAt? a = some cl) (h : (Jvm.Cond.eq (.length t) (.int (2 : Int32))).value args s none s [] = some true) : cl.slots.size = 2 := by
  obtain ⟨x, y, hx, hy, -, hk⟩ := cmp_v (Or.inl h)
  have hy2 : some (Value.int 2) = some y := (Term.int_eval 2).symm.trans hy
  cases hy2
  obtain ⟨z, rfl⟩ : ∃ z, x = .int z := hk
  have q : (Jvm.Cond.eq (.length t) (.int (2 : Int32))).value args s none s [] = some (decide (z = 2)) := by simp [Cond.value, hx, hy]
  obtain rfl : z = 2 := gotT q h
  by_cases hn : cl.slots.size < 2 ^ 31
  · have q2 := (len_f ev ha hn).symm.trans hx
    have q3 : cl.slots.size.toInt32 = 2 := by injection (Option.some.inj q2)
    have q4 := congrArg Int32.toInt q3
    rw [len_toInt hn] at q4
    have q5 : (2 : Int32).toInt = 2 := rfl
    omega
  · exfalso
    have hn' : ¬ cl.slots.size < 2147483648 := hn
    simp [Term.eval, ev, ha, hn'] at hx
theorem own_el {args : Array Value} {s : State} {t u : Term} {a b : Addr} {cl : Cell} {j : Int32} (ev : t.eval args s none [] s = some (.ref a)) (eu : u.eval args s none [] s = some (.ref b)) (hc : s.heap[a]? = some cl) (h : (Jvm.Cond.eq (.elem t (.int j)) u).value args s none s [] = some true) : cl.slots[j.toNatClampNeg]? = some (.ref b) := by
  obtain ⟨x, y, hx, hy, -, hk⟩ := cmp_v (Or.inl h)
  cases eu.symm.trans hy
  have hr : x.isRef = true := hk.2
  obtain rfl : x = .ref b := gotT (eq_R hx hy hr rfl) h
  exact (elem_in hx ev (Term.int_eval j) hc).2
theorem d5_0 : decode jdk_32_method_2_code 0 = .ok (.aload_n 0, 1) := by decide +kernel
theorem d5_1 : decode jdk_32_method_2_code 1 = .ok (.invokespecial 7, 3) := by decide +kernel
theorem d5_4 : decode jdk_32_method_2_code 4 = .ok (.aload_n 0, 1) := by decide +kernel
theorem d5_5 : decode jdk_32_method_2_code 5 = .ok (.aload_n 1, 1) := by decide +kernel
theorem d5_6 : decode jdk_32_method_2_code 6 = .ok (.putfield 13, 3) := by decide +kernel
theorem d5_9 : decode jdk_32_method_2_code 9 = .ok (.return_, 1) := by decide +kernel
theorem pn_5 : plainName "java/util/Optional" = true := by first | (simp [plainName, overriddenIn]; done) | decide +kernel
theorem ef_5 (m : MethodId) (x0 : Addr) (x1 : Addr) : entryFrame m #[(.ref x0), (.ref x1)] 2 = mkF m 0 #[.val (.ref x0), .val (.ref x1)] [] := by first | (simp [entryFrame, mkF, argsToLocals, Value.category]; done) | rfl
def Q5 (Z : State) (a1 : Addr) (a2 : Addr) (u_value_a1 : Value) (h0 : Heap) (n0 : Nat) (v : Option Value) (h : Heap) (L : List Loc) : Prop := v = none ∧ Fr n0 L ∧ Keep h0 h [a1] ∧ Exa Z h a1 "java/util/Optional" ∧ Fld Z h a1 "java/util/Optional" "value" "Ljava/lang/Object;" (.ref a2)
set_option maxRecDepth 65536 in
set_option maxHeartbeats 40000000 in
theorem rm5 (l : Launch) (Z : State) (a0 : Array Value) (hw : ∀ d ∈ tables_1, d.before a0 Z = true) (ws : List Jvm.Cond) (a1 : Addr) (a2 : Addr) (u_value_a1 : Value) (h0 : Heap) (n0 : Nat) (Z0 : n0 ≤ h0.size) (E_a1 : Exa Z h0 a1 "java/util/Optional") (F_value_a1 : Fld Z h0 a1 "java/util/Optional" "value" "Ljava/lang/Object;" u_value_a1) (g_a1 : n0 ≤ a1) :
    MetFree l (⟨"java/util/Optional", "<init>", "(Ljava/lang/Object;)V"⟩ : MethodName) (head1 (Jvm.Cond.code (⟨"java/util/Optional", "<init>", "(Ljava/lang/Object;)V"⟩ : MethodName) jdk_32_method_2_code 2 none :: ws) ({ frames := 1, cells := 0, slots := 0, locals := 12 } : Room)) (fun a U => a = #[(.ref a1), (.ref a2)] ∧ Z.Warmed39 U.vm ∧ U.heap = h0) (fun _ _ _ _ _ => True) (fun _ U o U' => ∃ v L, o = .returned v ∧ Q5 Z a1 a2 u_value_a1 h0 n0 v U'.heap L ∧ FrameEnd U o U' L ({ frames := 1, cells := 0, slots := 0, locals := 12 } : Room).cells ({ frames := 1, cells := 0, slots := 0, locals := 12 } : Room).slots) := by
  refine MetFree.of_bodySF (plainFor_of_name pn_5) hisR ?_
  intro p e s m args below meth c s₁ Bd hml0 hP hK
  obtain ⟨rfl, hZ, hh⟩ := hP
  have hx := Bd.exec
  have hby := Bd.bytes
  have hml : c.maxLocals = 2 := hml0
  have hown : s.vm.findClass "java/util/Optional" = some m.cls := findClass_of_methodNamed Bd.named
  have hnm := (name_of_methodNamed Bd.named Bd.method).1
  have X0 : Stand p l e ({ frames := 1, cells := 0, slots := 0, locals := 12 } : Room) s m #[(.ref a1), (.ref a2)] below meth c s₁ [] 0 0 := Stand.of_body Bd
  have e0 : s₁.heap = h0 := by rw [← hh, Bd.state]; rfl
  have N0 := Fr.nil n0
  have pre0 : ∀ t, Steps p.tables e below (s₁.setTop (mkF m 0 #[.val (.ref a1), .val (.ref a2)] [])) t → Steps p.tables e below (s₁.setTop (entryFrame m #[(.ref a1), (.ref a2)] 2)) t := fun t k => castTop (ef_5 m a1 a2) k
  obtain ⟨T3, X3, e3, st3⟩ := initO X0 hx hZ hown (hw _ (List.mem_of_getElem? (i := 41) rfl)) (hw _ (List.mem_of_getElem? (i := 42) rfl)) (hw _ (List.mem_of_getElem? (i := 43) rfl)) e0 (g := (mkF m 1 #[.val (.ref a1), .val (.ref a2)] [(.ref a1)])) rfl (by rw [hml]; rfl) rfl (hb hby d5_1) (by decide) (W := 0) (by show 2 * 0 + _ ≤ _; exact Nat.le_of_eq rfl) (by decide)
  obtain ⟨T4, h4, X4, e4, W4, st4⟩ := putF X3 hx hZ hown (host := "") (Or.inl (hw _ (List.mem_of_getElem? (i := 33) rfl))) Via.refl e3 F_value_a1 E_a1 (Or.inr ⟨(hw _ (List.mem_of_getElem? (i := 34) rfl)), rfl, hnm⟩) (hw _ (List.mem_of_getElem? (i := 36) rfl)) (ty := (.object "java/lang/Object")) (by decide) rfl rfl (g := (mkF m 6 #[.val (.ref a1), .val (.ref a2)] [(.ref a2), (.ref a1)])) rfl rfl (hb hby d5_6)
  have Fw4 := F_value_a1.same W4
  have K4 : Keep h0 h4 [a1] := (Keep.refl h0 [a1]).wr W4 (Or.inl (List.mem_of_getElem? (i := 0) rfl))
  have N4 := Fr.snoc X4 N0 g_a1
  obtain ⟨fs, hr, hrun, hended, hW, hsame⟩ := X4.leave (v := none) (fun _ => rfl)
  refine ⟨_, _, pre0 _ ?_, hrun, hended, _, _, rfl, ?_, ⟨_, rfl⟩, hW, hsame.mono (by decide) (by decide)⟩
  · show Steps p.tables e below (s₁.setTop (mkF m 0 #[.val (.ref a1), .val (.ref a2)] [])) _
    refine XS.aloadN X0.here hx rfl (hb hby d5_0) rfl rfl ?_
    show Steps p.tables e below (s₁.setTop (mkF m 1 #[.val (.ref a1), .val (.ref a2)] [(.ref a1)])) _
    refine st3 _ ?_
    show Steps p.tables e below (T3.setTop (mkF m 4 #[.val (.ref a1), .val (.ref a2)] [])) _
    refine XS.aloadN X3.here hx rfl (hb hby d5_4) rfl rfl ?_
    show Steps p.tables e below (T3.setTop (mkF m 5 #[.val (.ref a1), .val (.ref a2)] [(.ref a1)])) _
    refine XS.aloadN X3.here hx rfl (hb hby d5_5) rfl rfl ?_
    show Steps p.tables e below (T3.setTop (mkF m 6 #[.val (.ref a1), .val (.ref a2)] [(.ref a2), (.ref a1)])) _
    refine st4 _ ?_
    show Steps p.tables e below (T4.setTop (mkF m 9 #[.val (.ref a1), .val (.ref a2)] [])) _
    exact X4.returnOut hx Bd.returns (hb hby d5_9) hr
  · show Q5 Z a1 a2 u_value_a1 h0 n0 _ T4.heap _
    rw [e4]
    exact ⟨rfl, N4, K4, (E_a1.wr W4), Fw4⟩
theorem pd_5 : parseMethodDescriptor "(Ljava/lang/Object;)V" = some ⟨[(.object "java/lang/Object")], none⟩ := by decide +kernel
theorem d2_0 : decode prog_9_method_1_code 0 = .ok (.getstatic 10, 3) := by decide +kernel
theorem d2_3 : decode prog_9_method_1_code 3 = .ok (.invokevirtual 14, 3) := by decide +kernel
theorem d2_6 : decode prog_9_method_1_code 6 = .ok (.checkcast 15, 3) := by decide +kernel
theorem d2_9 : decode prog_9_method_1_code 9 = .ok (.areturn, 1) := by decide +kernel
theorem pn_2 : plainName "com/example/hashkeep/hashkeep/store/DigestAlgorithm" = true := by first | (simp [plainName, overriddenIn]; done) | decide +kernel
theorem pd_2 : parseMethodDescriptor "()[Lcom/example/hashkeep/hashkeep/store/DigestAlgorithm;" = some ⟨[], some (.array (.object "com/example/hashkeep/hashkeep/store/DigestAlgorithm"))⟩ := by decide +kernel
theorem ef_2 (m : MethodId)   : entryFrame m #[] 0 = mkF m 0 #[] [] := by first | (simp [entryFrame, mkF, argsToLocals, Value.category]; done) | rfl
set_option maxRecDepth 65536 in
set_option maxHeartbeats 40000000 in
theorem rm2 (l : Launch) (Z : State) (a0 : Array Value) (hw : ∀ d ∈ tables_1, d.before a0 Z = true) (ws : List Jvm.Cond) (wV : Addr) (cl : Cell) (h0 : Heap) (n0 : Nat) (S_VALUES : Sta Z h0 "com/example/hashkeep/hashkeep/store/DigestAlgorithm" "$VALUES" "[Lcom/example/hashkeep/hashkeep/store/DigestAlgorithm;" (.ref wV)) (E_V : Exa Z h0 wV "[Lcom/example/hashkeep/hashkeep/store/DigestAlgorithm;") (A_V : Arr Z h0 wV cl (.object "com/example/hashkeep/hashkeep/store/DigestAlgorithm")) (FC : FitC Z cl) (hsz : cl.slots.size = 2) :
    MetFree l (⟨"com/example/hashkeep/hashkeep/store/DigestAlgorithm", "values", "()[Lcom/example/hashkeep/hashkeep/store/DigestAlgorithm;"⟩ : MethodName) (head1 (Jvm.Cond.code (⟨"com/example/hashkeep/hashkeep/store/DigestAlgorithm", "values", "()[Lcom/example/hashkeep/hashkeep/store/DigestAlgorithm;"⟩ : MethodName) prog_9_method_1_code 0 (some (.array (.object "com/example/hashkeep/hashkeep/store/DigestAlgorithm"))) :: ws) ({ frames := 1, cells := 1, slots := 2, locals := 14 } : Room)) (fun a U => a = #[] ∧ Z.Warmed39 U.vm ∧ U.heap = h0) (fun _ _ _ _ _ => True) (fun _ U o U' => ∃ v L, o = .returned v ∧ own_Qv Z cl n0 h0 v U'.heap L ∧ FrameEnd U o U' L ({ frames := 1, cells := 1, slots := 2, locals := 14 } : Room).cells ({ frames := 1, cells := 1, slots := 2, locals := 14 } : Room).slots) := by
  refine MetFree.of_bodySF (plainFor_of_name pn_2) hisR ?_
  intro p e s m args below meth c s₁ Bd hml0 hP hK
  obtain ⟨rfl, hZ, hh⟩ := hP
  have hx := Bd.exec
  have hby := Bd.bytes
  have hml : c.maxLocals = 0 := hml0
  have hown : s.vm.findClass "com/example/hashkeep/hashkeep/store/DigestAlgorithm" = some m.cls := findClass_of_methodNamed Bd.named
  have hlk : meth.locks = false := BodyLoose.notSynchronized Bd
  have X0 : Stand p l e ({ frames := 1, cells := 1, slots := 2, locals := 14 } : Room) s m #[] below meth c s₁ [] 0 0 := Stand.of_body Bd
  have e0 : s₁.heap = h0 := by rw [← hh, Bd.state]; rfl
  have N0 := Fr.nil n0
  refine own_start (Q := own_EndG (own_Qv Z cl n0 h0) s ({ frames := 1, cells := 1, slots := 2, locals := 14 } : Room)) (ef_2 m ) ?_
  obtain ⟨T57, X57, e57, st57⟩ := getS2 X0 hx hZ hown (host := "") (Or.inl (hw _ (List.mem_of_getElem? (i := 7) rfl))) Via.refl e0 S_VALUES (g := (mkF m 0 #[] [])) rfl (hb hby d2_0)
  refine own_lift (T' := T57) (f' := (mkF m 3 #[] [(.ref wV)])) (st57) ?_
  obtain ⟨Tc, hc1, Xc, ec, xc, Ac, Ec, stc⟩ := cloneA X57 hx hZ hown (hw _ (List.mem_of_getElem? (i := 9) rfl)) (hw _ (List.mem_of_getElem? (i := 10) rfl)) (hw _ (List.mem_of_getElem? (i := 14) rfl)) (hw _ (List.mem_of_getElem? (i := 12) rfl)) (hw _ (List.mem_of_getElem? (i := 13) rfl)) (hw _ (List.mem_of_getElem? (i := 15) rfl)) e57 A_V E_V FC (g := (mkF m 3 #[] [(.ref wV)])) rfl (by rw [hml]; rfl) rfl (hb hby d2_3) (by decide) (W := 0) (cap := 2) (by show 2 * 0 + _ ≤ _; exact Nat.le_of_eq rfl) (by decide) (by rw [hsz]; exact Nat.le_refl _) (by decide) (by decide)
  refine own_lift (T' := Tc) (f' := (mkF m 6 #[] [(.ref h0.size)])) (stc) ?_
  obtain ⟨Td, Xd, ed, std⟩ := castY Xc hx hZ hown (hw _ (List.mem_of_getElem? (i := 19) rfl)) ec (Ins.self Ec) (g := (mkF m 6 #[] [(.ref h0.size)])) rfl rfl (hb hby d2_6)
  refine own_lift (T' := Td) (f' := (mkF m 9 #[] [(.ref h0.size)])) (std) ?_
  exact own_retG Xd hx hlk Bd.returns rfl (Or.inr (Or.inr (Or.inr (Or.inr ⟨rfl, rfl, rfl⟩)))) (hb hby d2_9) ⟨_, rfl, N0, by rw [ed]; exact xc, by rw [ed]; exact Ac⟩ (by decide) (by decide)
theorem d3_0 : decode jdk_32_method_4_code 0 = .ok (.aload_n 0, 1) := by decide +kernel
theorem d3_1 : decode jdk_32_method_4_code 1 = .ok (.ifnonnull 9, 3) := by decide +kernel
theorem d3_4 : decode jdk_32_method_4_code 4 = .ok (.getstatic 1, 3) := by decide +kernel
theorem d3_7 : decode jdk_32_method_4_code 7 = .ok (.goto 11, 3) := by decide +kernel
theorem d3_10 : decode jdk_32_method_4_code 10 = .ok (.new 2, 3) := by decide +kernel
theorem d3_13 : decode jdk_32_method_4_code 13 = .ok (.dup, 1) := by decide +kernel
theorem d3_14 : decode jdk_32_method_4_code 14 = .ok (.aload_n 0, 1) := by decide +kernel
theorem d3_15 : decode jdk_32_method_4_code 15 = .ok (.invokespecial 23, 3) := by decide +kernel
theorem d3_18 : decode jdk_32_method_4_code 18 = .ok (.areturn, 1) := by decide +kernel
theorem pn_3 : plainName "java/util/Optional" = true := by first | (simp [plainName, overriddenIn]; done) | decide +kernel
theorem pd_3 : parseMethodDescriptor "(Ljava/lang/Object;)Ljava/util/Optional;" = some ⟨[(.object "java/lang/Object")], some (.object "java/util/Optional")⟩ := by decide +kernel
theorem ef_3 (m : MethodId) (x0 : Value) (hx0 : x0.isRef = true) : entryFrame m #[x0] 1 = mkF m 0 #[.val x0] [] := by rcases ref_cases hx0 with rfl | ⟨_, rfl⟩ <;> (first | (simp [entryFrame, mkF, argsToLocals, Value.category]; done) | rfl)
set_option maxRecDepth 65536 in
set_option maxHeartbeats 40000000 in
theorem rm3 (l : Launch) (Z : State) (a0 : Array Value) (hw : ∀ d ∈ tables_1, d.before a0 Z = true) (ws : List Jvm.Cond) (pv : Value) (hpv : pv.isRef = true) (wE : Addr) (h0 : Heap) (n0 : Nat) (Z0 : n0 ≤ h0.size) (S_EMPTY : Sta Z h0 "java/util/Optional" "EMPTY" "Ljava/util/Optional;" (.ref wE)) (E_E : Exa Z h0 wE "java/util/Optional") (F_E : Fld Z h0 wE "java/util/Optional" "value" "Ljava/lang/Object;" .null) :
    MetFree l (⟨"java/util/Optional", "ofNullable", "(Ljava/lang/Object;)Ljava/util/Optional;"⟩ : MethodName) (head1 (Jvm.Cond.code (⟨"java/util/Optional", "ofNullable", "(Ljava/lang/Object;)Ljava/util/Optional;"⟩ : MethodName) jdk_32_method_4_code 1 (some (.object "java/util/Optional")) :: ws) ({ frames := 2, cells := 1, slots := 1, locals := 26 } : Room)) (fun a U => a = #[pv] ∧ Z.Warmed39 U.vm ∧ U.heap = h0) (fun _ _ _ _ _ => True) (fun _ U o U' => ∃ v L, o = .returned v ∧ own_Qo Z pv n0 h0 v U'.heap L ∧ FrameEnd U o U' L ({ frames := 2, cells := 1, slots := 1, locals := 26 } : Room).cells ({ frames := 2, cells := 1, slots := 1, locals := 26 } : Room).slots) := by
  refine MetFree.of_bodySF (plainFor_of_name pn_3) hisR ?_
  intro p e s m args below meth c s₁ Bd hml0 hP hK
  obtain ⟨rfl, hZ, hh⟩ := hP
  have hx := Bd.exec
  have hby := Bd.bytes
  have hml : c.maxLocals = 1 := hml0
  have hown : s.vm.findClass "java/util/Optional" = some m.cls := findClass_of_methodNamed Bd.named
  have hlk : meth.locks = false := BodyLoose.notSynchronized Bd
  have X0 : Stand p l e ({ frames := 2, cells := 1, slots := 1, locals := 26 } : Room) s m #[pv] below meth c s₁ [] 0 0 := Stand.of_body Bd
  have e0 : s₁.heap = h0 := by rw [← hh, Bd.state]; rfl
  have N0 := Fr.nil n0
  refine own_start (Q := own_EndG (own_Qo Z pv n0 h0) s ({ frames := 2, cells := 1, slots := 1, locals := 26 } : Room)) (ef_3 m pv hpv) ?_
  rcases ref_cases hpv with rfl | ⟨a1, rfl⟩
  · refine own_lift (T' := s₁) (f' := (mkF m 1 #[.val .null] [.null])) (fun _ k => XS.aloadN X0.here hx rfl (hb hby d3_0) rfl rfl k) ?_
    refine own_lift (T' := s₁) (f' := (mkF m 4 #[.val .null] [])) (fun _ k => XS.ifnonnullNo X0.here hx rfl (hb hby d3_1) rfl k) ?_
    obtain ⟨T58, X58, e58, st58⟩ := getS2 X0 hx hZ hown (host := "") (Or.inl (hw _ (List.mem_of_getElem? (i := 27) rfl))) Via.refl e0 S_EMPTY (g := (mkF m 4 #[.val .null] [])) rfl (hb hby d3_4)
    refine own_lift (T' := T58) (f' := (mkF m 7 #[.val .null] [(.ref wE)])) (st58) ?_
    refine own_lift (T' := T58) (f' := (mkF m 18 #[.val .null] [(.ref wE)])) (fun _ k => XS.goto X58.here hx rfl (pc0 := 7) (pc' := 18) rfl (hb hby d3_7) (by decide) (by decide) k) ?_
    exact own_retG X58 hx hlk Bd.returns rfl (Or.inr (Or.inr (Or.inr (Or.inr ⟨rfl, rfl, rfl⟩)))) (hb hby d3_18) ⟨wE, rfl, N0, by rw [e58]; exact own_ext_refl _, by rw [e58]; exact E_E, by rw [e58]; exact F_E⟩ (by decide) (by decide)
  · refine own_lift (T' := s₁) (f' := (mkF m 1 #[.val (.ref a1)] [(.ref a1)])) (fun _ k => XS.aloadN X0.here hx rfl (hb hby d3_0) rfl rfl k) ?_
    refine own_lift (T' := s₁) (f' := (mkF m 10 #[.val (.ref a1)] [])) (fun _ k => XS.ifnonnullYes X0.here hx rfl (pc0 := 1) (pc' := 10) rfl (hb hby d3_1) rfl (by decide) (by decide) k) ?_
    obtain ⟨Tn, hn1, Xn, en, xn, An, Dn, -, stn⟩ := newO X0 hx hZ hown (hw _ (List.mem_of_getElem? (i := 35) rfl)) (hw _ (List.mem_of_getElem? (i := 36) rfl)) (hw _ (List.mem_of_getElem? (i := 25) rfl)) e0 (g := (mkF m 10 #[.val (.ref a1)] [])) rfl (hb hby d3_10) (by decide) (by decide)
    obtain ⟨b2, g2⟩ : ∃ z, z = h0.size := ⟨_, rfl⟩
    rw [← g2] at An Dn stn
    have Fn : Fld Z hn1 b2 "java/util/Optional" "value" "Ljava/lang/Object;" .null := Dn (Or.inr (hw _ (List.mem_of_getElem? (i := 34) rfl))) (ty := (.object "java/lang/Object")) (by decide)
    have gn : n0 ≤ b2 := Nat.le_trans Z0 (Nat.le_of_eq g2.symm)
    have Kn : Keep h0 hn1 [] := (Keep.refl h0 []).ext xn
    refine own_lift (T' := Tn) (f' := (mkF m 13 #[.val (.ref a1)] [(.ref b2)])) (stn) ?_
    refine own_lift (T' := Tn) (f' := (mkF m 14 #[.val (.ref a1)] [(.ref b2), (.ref b2)])) (fun _ k => XS.dup Xn.here hx rfl (hb hby d3_13) rfl rfl k) ?_
    refine own_lift (T' := Tn) (f' := (mkF m 15 #[.val (.ref a1)] [(.ref a1), (.ref b2), (.ref b2)])) (fun _ k => XS.aloadN Xn.here hx rfl (hb hby d3_14) rfl rfl k) ?_
    obtain ⟨_, _, ⟨Ti, Li, ki, ni⟩, -, Xi, ⟨Lci, hQi, li, yi, zi⟩, sti⟩ := Xn.specialBack hx (y := (⟨"java/util/Optional", "<init>", "(Ljava/lang/Object;)V"⟩ : MethodName)) rfl hown (mvT hZ (hw _ (List.mem_of_getElem? (i := 37) rfl))) (mvT hZ (hw _ (List.mem_of_getElem? (i := 38) rfl))) (mvT hZ (hw _ (List.mem_of_getElem? (i := 40) rfl))) (by decide) (backOf (W := 1) (rm5 l Z a0 hw [] b2 a1 .null hn1 n0 (Nat.le_trans Z0 xn.1) An Fn gn) hZ (hw _ (List.mem_of_getElem? (i := 40) rfl)) (hw _ (List.mem_of_getElem? (i := 25) rfl)) (by decide) (by decide)) (g := (mkF m 15 #[.val (.ref a1)] [(.ref a1), (.ref b2), (.ref b2)])) rfl (by rw [hml]; rfl) (Steps.refl _) (a := b2) (argsL := [(.ref a1)]) (rest := [(.ref b2)]) (lenOf pd_5 rfl) rfl (by show 2 * 0 + _ ≤ _; exact Nat.le_of_eq rfl) (hb hby d3_15) (fun _ _ => ⟨rfl, en, Nat.le_of_ble_eq_true rfl, Nat.le_of_ble_eq_true rfl⟩)
    dsimp only [Pt.U, Pt.locs, Pt.cells, Pt.slots] at Xi li yi zi sti hQi
    subst li yi zi
    obtain ⟨rfl, Ni, Ki, Ei, Fi⟩ := hQi
    refine own_lift (T' := Ti) (f' := (mkF m 18 #[.val (.ref a1)] [(.ref b2)])) (fun _ k => sti.trans k) ?_
    exact own_retG Xi hx hlk Bd.returns rfl (Or.inr (Or.inr (Or.inr (Or.inr ⟨rfl, rfl, rfl⟩)))) (hb hby d3_18) ⟨b2, rfl, Fr.app N0 Ni, own_ext_keep (Kn.trans Ki (fun x hx' => Or.inr (by cases List.mem_singleton.mp hx'; exact Nat.le_of_eq g2.symm))), Ei, Fi⟩ (by decide) (by decide)
theorem d4_0 : decode jdk_32_method_15_code 0 = .ok (.aload_n 0, 1) := by decide +kernel
theorem d4_1 : decode jdk_32_method_15_code 1 = .ok (.getfield 13, 3) := by decide +kernel
theorem d4_4 : decode jdk_32_method_15_code 4 = .ok (.ifnull 10, 3) := by decide +kernel
theorem d4_7 : decode jdk_32_method_15_code 7 = .ok (.aload_n 0, 1) := by decide +kernel
theorem d4_8 : decode jdk_32_method_15_code 8 = .ok (.getfield 13, 3) := by decide +kernel
theorem d4_11 : decode jdk_32_method_15_code 11 = .ok (.goto 4, 3) := by decide +kernel
theorem d4_14 : decode jdk_32_method_15_code 14 = .ok (.aload_n 1, 1) := by decide +kernel
theorem d4_15 : decode jdk_32_method_15_code 15 = .ok (.areturn, 1) := by decide +kernel
theorem pn_4 : plainName "java/util/Optional" = true := by first | (simp [plainName, overriddenIn]; done) | decide +kernel
theorem pd_4 : parseMethodDescriptor "(Ljava/lang/Object;)Ljava/lang/Object;" = some ⟨[(.object "java/lang/Object")], some (.object "java/lang/Object")⟩ := by decide +kernel
theorem ef_4 (m : MethodId) (x0 : Addr) (x1 : Value) (hx1 : x1.isRef = true) : entryFrame m #[(.ref x0), x1] 2 = mkF m 0 #[.val (.ref x0), .val x1] [] := by rcases ref_cases hx1 with rfl | ⟨_, rfl⟩ <;> (first | (simp [entryFrame, mkF, argsToLocals, Value.category]; done) | rfl)
set_option maxRecDepth 65536 in
set_option maxHeartbeats 40000000 in
theorem rm4 (l : Launch) (Z : State) (a0 : Array Value) (hw : ∀ d ∈ tables_1, d.before a0 Z = true) (ws : List Jvm.Cond) (b : Addr) (pv : Value) (hpv : pv.isRef = true) (h0 : Heap) (F_b : Fld Z h0 b "java/util/Optional" "value" "Ljava/lang/Object;" pv) :
    MetFree l (⟨"java/util/Optional", "orElse", "(Ljava/lang/Object;)Ljava/lang/Object;"⟩ : MethodName) (head1 (Jvm.Cond.code (⟨"java/util/Optional", "orElse", "(Ljava/lang/Object;)Ljava/lang/Object;"⟩ : MethodName) jdk_32_method_15_code 2 (some (.object "java/lang/Object")) :: ws) ({ frames := 0, cells := 0, slots := 0, locals := 0 } : Room)) (fun a U => a = #[(.ref b), .null] ∧ Z.Warmed39 U.vm ∧ U.heap = h0) (fun _ _ _ _ _ => True) (fun _ U o U' => ∃ v L, o = .returned v ∧ own_Q pv h0 v U'.heap L ∧ FrameEnd U o U' L ({ frames := 0, cells := 0, slots := 0, locals := 0 } : Room).cells ({ frames := 0, cells := 0, slots := 0, locals := 0 } : Room).slots) := by
  refine MetFree.of_bodySF (plainFor_of_name pn_4) hisR ?_
  intro p e s m args below meth c s₁ Bd hml0 hP hK
  obtain ⟨rfl, hZ, hh⟩ := hP
  have hx := Bd.exec
  have hby := Bd.bytes
  have hml : c.maxLocals = 2 := hml0
  have hown : s.vm.findClass "java/util/Optional" = some m.cls := findClass_of_methodNamed Bd.named
  have hlk : meth.locks = false := BodyLoose.notSynchronized Bd
  have X0 : Stand p l e ({ frames := 0, cells := 0, slots := 0, locals := 0 } : Room) s m #[(.ref b), .null] below meth c s₁ [] 0 0 := Stand.of_body Bd
  have e0 : s₁.heap = h0 := by rw [← hh, Bd.state]; rfl
  refine own_start (Q := own_End pv h0 s ({ frames := 0, cells := 0, slots := 0, locals := 0 } : Room)) (ef_4 m b .null rfl) ?_
  rcases ref_cases hpv with rfl | ⟨a2, rfl⟩
  · refine own_lift (T' := s₁) (f' := (mkF m 1 #[.val (.ref b), .val .null] [(.ref b)])) (fun _ k => XS.aloadN X0.here hx rfl (hb hby d4_0) rfl rfl k) ?_
    obtain ⟨T59, X59, e59, st59⟩ := getF X0 hx hZ hown (host := "") (Or.inl (hw _ (List.mem_of_getElem? (i := 33) rfl))) Via.refl e0 F_b (g := (mkF m 1 #[.val (.ref b), .val .null] [(.ref b)])) rfl rfl (hb hby d4_1)
    refine own_lift (T' := T59) (f' := (mkF m 4 #[.val (.ref b), .val .null] [.null])) (st59) ?_
    refine own_lift (T' := T59) (f' := (mkF m 14 #[.val (.ref b), .val .null] [])) (fun _ k => XS.ifnullYes X59.here hx rfl (pc0 := 4) (pc' := 14) rfl (hb hby d4_4) rfl (by decide) (by decide) k) ?_
    refine own_lift (T' := T59) (f' := (mkF m 15 #[.val (.ref b), .val .null] [.null])) (fun _ k => XS.aloadN X59.here hx rfl (hb hby d4_14) rfl rfl k) ?_
    exact own_retA X59 hx hlk Bd.returns (hb hby d4_15) e59 rfl rfl
  · refine own_lift (T' := s₁) (f' := (mkF m 1 #[.val (.ref b), .val .null] [(.ref b)])) (fun _ k => XS.aloadN X0.here hx rfl (hb hby d4_0) rfl rfl k) ?_
    obtain ⟨T60, X60, e60, st60⟩ := getF X0 hx hZ hown (host := "") (Or.inl (hw _ (List.mem_of_getElem? (i := 33) rfl))) Via.refl e0 F_b (g := (mkF m 1 #[.val (.ref b), .val .null] [(.ref b)])) rfl rfl (hb hby d4_1)
    refine own_lift (T' := T60) (f' := (mkF m 4 #[.val (.ref b), .val .null] [(.ref a2)])) (st60) ?_
    refine own_lift (T' := T60) (f' := (mkF m 7 #[.val (.ref b), .val .null] [])) (fun _ k => XS.ifnullNo X60.here hx rfl (hb hby d4_4) rfl k) ?_
    refine own_lift (T' := T60) (f' := (mkF m 8 #[.val (.ref b), .val .null] [(.ref b)])) (fun _ k => XS.aloadN X60.here hx rfl (hb hby d4_7) rfl rfl k) ?_
    obtain ⟨T61, X61, e61, st61⟩ := getF X60 hx hZ hown (host := "") (Or.inl (hw _ (List.mem_of_getElem? (i := 33) rfl))) Via.refl e60 F_b (g := (mkF m 8 #[.val (.ref b), .val .null] [(.ref b)])) rfl rfl (hb hby d4_8)
    refine own_lift (T' := T61) (f' := (mkF m 11 #[.val (.ref b), .val .null] [(.ref a2)])) (st61) ?_
    refine own_lift (T' := T61) (f' := (mkF m 15 #[.val (.ref b), .val .null] [(.ref a2)])) (fun _ k => XS.goto X61.here hx rfl (pc0 := 11) (pc' := 15) rfl (hb hby d4_11) (by decide) (by decide) k) ?_
    exact own_retA X61 hx hlk Bd.returns (hb hby d4_15) e61 rfl rfl
theorem d1_0 : decode prog_9_method_4_code 0 = .ok (.aconst_null, 1) := by decide +kernel
theorem d1_1 : decode prog_9_method_4_code 1 = .ok (.astore_n 1, 1) := by decide +kernel
theorem d1_2 : decode prog_9_method_4_code 2 = .ok (.invokestatic 37, 3) := by decide +kernel
theorem d1_5 : decode prog_9_method_4_code 5 = .ok (.astore_n 2, 1) := by decide +kernel
theorem d1_6 : decode prog_9_method_4_code 6 = .ok (.aload_n 2, 1) := by decide +kernel
theorem d1_7 : decode prog_9_method_4_code 7 = .ok (.arraylength, 1) := by decide +kernel
theorem d1_8 : decode prog_9_method_4_code 8 = .ok (.istore_n 3, 1) := by decide +kernel
theorem d1_9 : decode prog_9_method_4_code 9 = .ok (.iconst 0, 1) := by decide +kernel
theorem d1_10 : decode prog_9_method_4_code 10 = .ok (.istore 4, 2) := by decide +kernel
theorem d1_12 : decode prog_9_method_4_code 12 = .ok (.iload 4, 2) := by decide +kernel
theorem d1_14 : decode prog_9_method_4_code 14 = .ok (.iload_n 3, 1) := by decide +kernel
theorem d1_15 : decode prog_9_method_4_code 15 = .ok (.if_icmp .ge 27, 3) := by decide +kernel
theorem d1_18 : decode prog_9_method_4_code 18 = .ok (.aload_n 2, 1) := by decide +kernel
theorem d1_19 : decode prog_9_method_4_code 19 = .ok (.iload 4, 2) := by decide +kernel
theorem d1_21 : decode prog_9_method_4_code 21 = .ok (.aaload, 1) := by decide +kernel
theorem d1_22 : decode prog_9_method_4_code 22 = .ok (.astore 5, 2) := by decide +kernel
theorem d1_24 : decode prog_9_method_4_code 24 = .ok (.aload 5, 2) := by decide +kernel
theorem d1_26 : decode prog_9_method_4_code 26 = .ok (.getfield 33, 3) := by decide +kernel
theorem d1_29 : decode prog_9_method_4_code 29 = .ok (.iload_n 0, 1) := by decide +kernel
theorem d1_30 : decode prog_9_method_4_code 30 = .ok (.if_icmp .ne 6, 3) := by decide +kernel
theorem d1_33 : decode prog_9_method_4_code 33 = .ok (.aload 5, 2) := by decide +kernel
theorem d1_35 : decode prog_9_method_4_code 35 = .ok (.astore_n 1, 1) := by decide +kernel
theorem d1_36 : decode prog_9_method_4_code 36 = .ok (.iinc 4 1, 3) := by decide +kernel
theorem d1_39 : decode prog_9_method_4_code 39 = .ok (.goto (-27), 3) := by decide +kernel
theorem d1_42 : decode prog_9_method_4_code 42 = .ok (.aload_n 1, 1) := by decide +kernel
theorem d1_43 : decode prog_9_method_4_code 43 = .ok (.invokestatic 41, 3) := by decide +kernel
theorem d1_46 : decode prog_9_method_4_code 46 = .ok (.areturn, 1) := by decide +kernel
theorem pn_1 : plainName "com/example/hashkeep/hashkeep/store/DigestAlgorithm" = true := by first | (simp [plainName, overriddenIn]; done) | decide +kernel
theorem pd_1 : parseMethodDescriptor "(I)Ljava/util/Optional;" = some ⟨[.int], some (.object "java/util/Optional")⟩ := by decide +kernel
theorem ef_1 (m : MethodId) (x0 : Int32)  : entryFrame m #[(.int x0)] 6 = mkF m 0 #[.val (.int x0), .unset, .unset, .unset, .unset, .unset] [] := by first | (simp [entryFrame, mkF, argsToLocals, Value.category]; done) | rfl
set_option maxRecDepth 65536 in
set_option maxHeartbeats 40000000 in
theorem rm1 (l : Launch) (Z : State) (a0 : Array Value) (hw : ∀ d ∈ tables_1, d.before a0 Z = true) (ws : List Jvm.Cond) (kk : Int32) (wV wS wM wE : Addr) (cl : Cell) (pv : Value) (h0 : Heap) (n0 : Nat) (Z0 : n0 ≤ h0.size) (S_VALUES : Sta Z h0 "com/example/hashkeep/hashkeep/store/DigestAlgorithm" "$VALUES" "[Lcom/example/hashkeep/hashkeep/store/DigestAlgorithm;" (.ref wV)) (E_V : Exa Z h0 wV "[Lcom/example/hashkeep/hashkeep/store/DigestAlgorithm;") (A_V : Arr Z h0 wV cl (.object "com/example/hashkeep/hashkeep/store/DigestAlgorithm")) (FC : FitC Z cl) (hsz : cl.slots.size = 2) (el0 : cl.slots[0]? = some (.ref wS)) (el1 : cl.slots[1]? = some (.ref wM)) (F_S : Fld Z h0 wS "com/example/hashkeep/hashkeep/store/DigestAlgorithm" "hexDigits" "I" (.int (64 : Int32))) (F_M : Fld Z h0 wM "com/example/hashkeep/hashkeep/store/DigestAlgorithm" "hexDigits" "I" (.int (32 : Int32))) (S_EMPTY : Sta Z h0 "java/util/Optional" "EMPTY" "Ljava/util/Optional;" (.ref wE)) (E_E : Exa Z h0 wE "java/util/Optional") (F_E : Fld Z h0 wE "java/util/Optional" "value" "Ljava/lang/Object;" .null) (hv : pv = if kk = 64 then .ref wS else if kk = 32 then .ref wM else .null) :
    MetFree l (⟨"com/example/hashkeep/hashkeep/store/DigestAlgorithm", "ofHexDigits", "(I)Ljava/util/Optional;"⟩ : MethodName) (head1 (Jvm.Cond.code (⟨"com/example/hashkeep/hashkeep/store/DigestAlgorithm", "ofHexDigits", "(I)Ljava/util/Optional;"⟩ : MethodName) prog_9_method_4_code 6 (some (.object "java/util/Optional")) :: ws) ({ frames := 3, cells := 2, slots := 3, locals := 38 } : Room)) (fun a U => a = #[(.int kk)] ∧ Z.Warmed39 U.vm ∧ U.heap = h0) (fun _ _ _ _ _ => True) (fun _ U o U' => ∃ v L, o = .returned v ∧ own_Qo Z pv n0 h0 v U'.heap L ∧ FrameEnd U o U' L ({ frames := 3, cells := 2, slots := 3, locals := 38 } : Room).cells ({ frames := 3, cells := 2, slots := 3, locals := 38 } : Room).slots) := by
  refine MetFree.of_bodySF (plainFor_of_name pn_1) hisR ?_
  intro p e s m args below meth c s₁ Bd hml0 hP hK
  obtain ⟨rfl, hZ, hh⟩ := hP
  have hx := Bd.exec
  have hby := Bd.bytes
  have hml : c.maxLocals = 6 := hml0
  have hown : s.vm.findClass "com/example/hashkeep/hashkeep/store/DigestAlgorithm" = some m.cls := findClass_of_methodNamed Bd.named
  have hlk : meth.locks = false := BodyLoose.notSynchronized Bd
  have X0 : Stand p l e ({ frames := 3, cells := 2, slots := 3, locals := 38 } : Room) s m #[(.int kk)] below meth c s₁ [] 0 0 := Stand.of_body Bd
  have e0 : s₁.heap = h0 := by rw [← hh, Bd.state]; rfl
  have N0 := Fr.nil n0
  refine own_start (Q := own_EndG (own_Qo Z pv n0 h0) s ({ frames := 3, cells := 2, slots := 3, locals := 38 } : Room)) (ef_1 m kk) ?_
  refine own_lift (T' := s₁) (f' := (mkF m 1 #[.val (.int kk), .unset, .unset, .unset, .unset, .unset] [.null])) (fun _ k => XS.aconstNull X0.here hx rfl (hb hby d1_0) k) ?_
  refine own_lift (T' := s₁) (f' := (mkF m 2 #[.val (.int kk), .val .null, .unset, .unset, .unset, .unset] [])) (fun _ k => XS.astoreN X0.here hx rfl (hb hby d1_1) rfl rfl (l' := #[.val (.int kk), .val .null, .unset, .unset, .unset, .unset]) rfl k) ?_
  obtain ⟨_, _, ⟨Tv, Lv, kv, nv⟩, -, Xv, ⟨Lcv, hQv, lv, yv, zv⟩, stv⟩ := Jvm.LawKit.callS X0 hx (y := (⟨"com/example/hashkeep/hashkeep/store/DigestAlgorithm", "values", "()[Lcom/example/hashkeep/hashkeep/store/DigestAlgorithm;"⟩ : MethodName)) hown (mvT hZ (hw _ (List.mem_of_getElem? (i := 4) rfl))) (mvT hZ (hw _ (List.mem_of_getElem? (i := 5) rfl))) (mvT hZ (hw _ (List.mem_of_getElem? (i := 2) rfl))) (mvT hZ (hw _ (List.mem_of_getElem? (i := 6) rfl))) (by decide) (backOf (W := 0) (rm2 l Z a0 hw [] wV cl h0 n0 S_VALUES E_V A_V FC hsz) hZ (hw _ (List.mem_of_getElem? (i := 6) rfl)) (hw _ (List.mem_of_getElem? (i := 2) rfl)) (by decide) (by decide)) (g := (mkF m 2 #[.val (.int kk), .val .null, .unset, .unset, .unset, .unset] [])) rfl (by rw [hml]; rfl) (argsL := []) (rest := []) (lenOf pd_2 rfl) rfl (by show 2 * 0 + _ ≤ _; exact Nat.le_of_eq rfl) (hb hby d1_2) (fun _ _ => ⟨rfl, e0, Nat.le_of_ble_eq_true rfl, Nat.le_of_ble_eq_true rfl⟩)
  dsimp only [Pt.U, Pt.locs, Pt.cells, Pt.slots] at Xv lv yv zv stv hQv
  subst lv yv zv
  obtain ⟨bv, rfl, Nv, xv, Av⟩ := hQv
  obtain ⟨hv1, ev⟩ : ∃ h, Tv.heap = h := ⟨_, rfl⟩
  rw [ev] at xv Av
  refine own_lift (T' := Tv) (f' := (mkF m 5 #[.val (.int kk), .val .null, .unset, .unset, .unset, .unset] [(.ref bv)])) (stv) ?_
  have hlen : (cloneOf cl).slots.size.toInt32 = (2 : Int32) := by rw [show (cloneOf cl).slots.size = 2 from hsz]; rfl
  refine own_lift (T' := Tv) (f' := (mkF m 6 #[.val (.int kk), .val .null, .val (.ref bv), .unset, .unset, .unset] [])) (fun _ k => XS.astoreN Xv.here hx rfl (hb hby d1_5) rfl rfl (l' := #[.val (.int kk), .val .null, .val (.ref bv), .unset, .unset, .unset]) rfl k) ?_
  refine own_lift (T' := Tv) (f' := (mkF m 7 #[.val (.int kk), .val .null, .val (.ref bv), .unset, .unset, .unset] [(.ref bv)])) (fun _ k => XS.aloadN Xv.here hx rfl (hb hby d1_6) rfl rfl k) ?_
  refine own_lift (T' := Tv) (f' := (mkF m 8 #[.val (.int kk), .val .null, .val (.ref bv), .unset, .unset, .unset] [(.int (2 : Int32))])) (fun t k => Xv.arraylength hx (by rw [ev]; exact Av.1) (State.isArrayOf_alike hZ.alike Av.2.1) (g := (mkF m 7 #[.val (.int kk), .val .null, .val (.ref bv), .unset, .unset, .unset] [(.ref bv)])) rfl rfl (hb hby d1_7) t (by rw [hlen]; exact k)) ?_
  refine own_lift (T' := Tv) (f' := (mkF m 9 #[.val (.int kk), .val .null, .val (.ref bv), .val (.int (2 : Int32)), .unset, .unset] [])) (fun _ k => XS.istoreN Xv.here hx rfl (hb hby d1_8) rfl (l' := #[.val (.int kk), .val .null, .val (.ref bv), .val (.int (2 : Int32)), .unset, .unset]) rfl k) ?_
  refine own_lift (T' := Tv) (f' := (mkF m 10 #[.val (.int kk), .val .null, .val (.ref bv), .val (.int (2 : Int32)), .unset, .unset] [(.int (0 : Int32))])) (fun _ k => XS.iconst Xv.here hx rfl (hb hby d1_9) k) ?_
  refine own_lift (T' := Tv) (f' := (mkF m 12 #[.val (.int kk), .val .null, .val (.ref bv), .val (.int (2 : Int32)), .val (.int (0 : Int32)), .unset] [])) (fun _ k => XS.istore Xv.here hx rfl (hb hby d1_10) rfl (l' := #[.val (.int kk), .val .null, .val (.ref bv), .val (.int (2 : Int32)), .val (.int (0 : Int32)), .unset]) rfl k) ?_
  refine own_lift (T' := Tv) (f' := (mkF m 14 #[.val (.int kk), .val .null, .val (.ref bv), .val (.int (2 : Int32)), .val (.int (0 : Int32)), .unset] [(.int (0 : Int32))])) (fun _ k => XS.iload Xv.here hx rfl (hb hby d1_12) rfl k) ?_
  refine own_lift (T' := Tv) (f' := (mkF m 15 #[.val (.int kk), .val .null, .val (.ref bv), .val (.int (2 : Int32)), .val (.int (0 : Int32)), .unset] [(.int (2 : Int32)), (.int (0 : Int32))])) (fun _ k => XS.iloadN Xv.here hx rfl (hb hby d1_14) rfl k) ?_
  by_cases k64 : kk = 64
  · obtain rfl : pv = (.ref wS) := by rw [hv]; simp [k64]
    refine own_lift (T' := Tv) (f' := (mkF m 18 #[.val (.int kk), .val .null, .val (.ref bv), .val (.int (2 : Int32)), .val (.int (0 : Int32)), .unset] [])) (fun _ k => XS.icmpNo Xv.here hx rfl (hb hby d1_15) rfl (tlt (by decide)).2.1 k) ?_
    refine own_lift (T' := Tv) (f' := (mkF m 19 #[.val (.int kk), .val .null, .val (.ref bv), .val (.int (2 : Int32)), .val (.int (0 : Int32)), .unset] [(.ref bv)])) (fun _ k => XS.aloadN Xv.here hx rfl (hb hby d1_18) rfl rfl k) ?_
    refine own_lift (T' := Tv) (f' := (mkF m 21 #[.val (.int kk), .val .null, .val (.ref bv), .val (.int (2 : Int32)), .val (.int (0 : Int32)), .unset] [(.int (0 : Int32)), (.ref bv)])) (fun _ k => XS.iload Xv.here hx rfl (hb hby d1_19) rfl k) ?_
    have hin0 : ¬ ((0 : Int32) < 0 ∨ (cloneOf cl).slots.size ≤ ((0 : Int32)).toNatClampNeg) := by rw [show (cloneOf cl).slots.size = 2 from hsz]; decide
    have hat0 : (cloneOf cl).slots[((0 : Int32)).toNatClampNeg]? = some (.ref wS) := by rw [show ((0 : Int32)).toNatClampNeg = 0 from by decide]; exact el0
    refine own_lift (T' := Tv) (f' := (mkF m 22 #[.val (.int kk), .val .null, .val (.ref bv), .val (.int (2 : Int32)), .val (.int (0 : Int32)), .unset] [(.ref wS)])) (fun t k => Xv.aaload hx (j := (0 : Int32)) (v := .ref wS) (by rw [ev]; exact Av.1) (State.isArrayOf_alike hZ.alike Av.2.1) rfl Av.2.2 hin0 hat0 (g := (mkF m 21 #[.val (.int kk), .val .null, .val (.ref bv), .val (.int (2 : Int32)), .val (.int (0 : Int32)), .unset] [(.int (0 : Int32)), (.ref bv)])) rfl rfl (hb hby d1_21) t k) ?_
    refine own_lift (T' := Tv) (f' := (mkF m 24 #[.val (.int kk), .val .null, .val (.ref bv), .val (.int (2 : Int32)), .val (.int (0 : Int32)), .val (.ref wS)] [])) (fun _ k => XS.astore Xv.here hx rfl (hb hby d1_22) rfl rfl (l' := #[.val (.int kk), .val .null, .val (.ref bv), .val (.int (2 : Int32)), .val (.int (0 : Int32)), .val (.ref wS)]) rfl k) ?_
    refine own_lift (T' := Tv) (f' := (mkF m 26 #[.val (.int kk), .val .null, .val (.ref bv), .val (.int (2 : Int32)), .val (.int (0 : Int32)), .val (.ref wS)] [(.ref wS)])) (fun _ k => XS.aload Xv.here hx rfl (hb hby d1_24) rfl rfl k) ?_
    obtain ⟨T62, X62, e62, st62⟩ := getF Xv hx hZ hown (host := "") (Or.inl (hw _ (List.mem_of_getElem? (i := 21) rfl))) Via.refl ev (F_S.ext xv) (g := (mkF m 26 #[.val (.int kk), .val .null, .val (.ref bv), .val (.int (2 : Int32)), .val (.int (0 : Int32)), .val (.ref wS)] [(.ref wS)])) rfl rfl (hb hby d1_26)
    refine own_lift (T' := T62) (f' := (mkF m 29 #[.val (.int kk), .val .null, .val (.ref bv), .val (.int (2 : Int32)), .val (.int (0 : Int32)), .val (.ref wS)] [(.int (64 : Int32))])) (st62) ?_
    refine own_lift (T' := T62) (f' := (mkF m 30 #[.val (.int kk), .val .null, .val (.ref bv), .val (.int (2 : Int32)), .val (.int (0 : Int32)), .val (.ref wS)] [(.int kk), (.int (64 : Int32))])) (fun _ k => XS.iloadN X62.here hx rfl (hb hby d1_29) rfl k) ?_
    refine own_lift (T' := T62) (f' := (mkF m 33 #[.val (.int kk), .val .null, .val (.ref bv), .val (.int (2 : Int32)), .val (.int (0 : Int32)), .val (.ref wS)] [])) (fun _ k => XS.icmpNo X62.here hx rfl (hb hby d1_30) rfl (teq k64.symm).2 k) ?_
    refine own_lift (T' := T62) (f' := (mkF m 35 #[.val (.int kk), .val .null, .val (.ref bv), .val (.int (2 : Int32)), .val (.int (0 : Int32)), .val (.ref wS)] [(.ref wS)])) (fun _ k => XS.aload X62.here hx rfl (hb hby d1_33) rfl rfl k) ?_
    refine own_lift (T' := T62) (f' := (mkF m 36 #[.val (.int kk), .val (.ref wS), .val (.ref bv), .val (.int (2 : Int32)), .val (.int (0 : Int32)), .val (.ref wS)] [])) (fun _ k => XS.astoreN X62.here hx rfl (hb hby d1_35) rfl rfl (l' := #[.val (.int kk), .val (.ref wS), .val (.ref bv), .val (.int (2 : Int32)), .val (.int (0 : Int32)), .val (.ref wS)]) rfl k) ?_
    refine own_lift (T' := T62) (f' := (mkF m 39 #[.val (.int kk), .val (.ref wS), .val (.ref bv), .val (.int (2 : Int32)), .val (.int ((0 : Int32) + (1 : Int32))), .val (.ref wS)] [])) (fun _ k => XS.iinc X62.here hx rfl (hb hby d1_36) rfl (l' := #[.val (.int kk), .val (.ref wS), .val (.ref bv), .val (.int (2 : Int32)), .val (.int ((0 : Int32) + (1 : Int32))), .val (.ref wS)]) rfl k) ?_
    refine own_lift (T' := T62) (f' := (mkF m 12 #[.val (.int kk), .val (.ref wS), .val (.ref bv), .val (.int (2 : Int32)), .val (.int ((0 : Int32) + (1 : Int32))), .val (.ref wS)] [])) (fun _ k => XS.goto X62.here hx rfl (pc0 := 39) (pc' := 12) rfl (hb hby d1_39) (by decide) (by decide) k) ?_
    refine own_lift (T' := T62) (f' := (mkF m 14 #[.val (.int kk), .val (.ref wS), .val (.ref bv), .val (.int (2 : Int32)), .val (.int ((0 : Int32) + (1 : Int32))), .val (.ref wS)] [(.int ((0 : Int32) + (1 : Int32)))])) (fun _ k => XS.iload X62.here hx rfl (hb hby d1_12) rfl k) ?_
    refine own_lift (T' := T62) (f' := (mkF m 15 #[.val (.int kk), .val (.ref wS), .val (.ref bv), .val (.int (2 : Int32)), .val (.int ((0 : Int32) + (1 : Int32))), .val (.ref wS)] [(.int (2 : Int32)), (.int ((0 : Int32) + (1 : Int32)))])) (fun _ k => XS.iloadN X62.here hx rfl (hb hby d1_14) rfl k) ?_
    refine own_lift (T' := T62) (f' := (mkF m 18 #[.val (.int kk), .val (.ref wS), .val (.ref bv), .val (.int (2 : Int32)), .val (.int ((0 : Int32) + (1 : Int32))), .val (.ref wS)] [])) (fun _ k => XS.icmpNo X62.here hx rfl (hb hby d1_15) rfl (tlt (by decide)).2.1 k) ?_
    refine own_lift (T' := T62) (f' := (mkF m 19 #[.val (.int kk), .val (.ref wS), .val (.ref bv), .val (.int (2 : Int32)), .val (.int ((0 : Int32) + (1 : Int32))), .val (.ref wS)] [(.ref bv)])) (fun _ k => XS.aloadN X62.here hx rfl (hb hby d1_18) rfl rfl k) ?_
    refine own_lift (T' := T62) (f' := (mkF m 21 #[.val (.int kk), .val (.ref wS), .val (.ref bv), .val (.int (2 : Int32)), .val (.int ((0 : Int32) + (1 : Int32))), .val (.ref wS)] [(.int ((0 : Int32) + (1 : Int32))), (.ref bv)])) (fun _ k => XS.iload X62.here hx rfl (hb hby d1_19) rfl k) ?_
    have hin1 : ¬ (((0 : Int32) + (1 : Int32)) < 0 ∨ (cloneOf cl).slots.size ≤ (((0 : Int32) + (1 : Int32))).toNatClampNeg) := by rw [show (cloneOf cl).slots.size = 2 from hsz]; decide
    have hat1 : (cloneOf cl).slots[(((0 : Int32) + (1 : Int32))).toNatClampNeg]? = some (.ref wM) := by rw [show (((0 : Int32) + (1 : Int32))).toNatClampNeg = 1 from by decide]; exact el1
    refine own_lift (T' := T62) (f' := (mkF m 22 #[.val (.int kk), .val (.ref wS), .val (.ref bv), .val (.int (2 : Int32)), .val (.int ((0 : Int32) + (1 : Int32))), .val (.ref wS)] [(.ref wM)])) (fun t k => X62.aaload hx (j := ((0 : Int32) + (1 : Int32))) (v := .ref wM) (by rw [e62]; exact Av.1) (State.isArrayOf_alike hZ.alike Av.2.1) rfl Av.2.2 hin1 hat1 (g := (mkF m 21 #[.val (.int kk), .val (.ref wS), .val (.ref bv), .val (.int (2 : Int32)), .val (.int ((0 : Int32) + (1 : Int32))), .val (.ref wS)] [(.int ((0 : Int32) + (1 : Int32))), (.ref bv)])) rfl rfl (hb hby d1_21) t k) ?_
    refine own_lift (T' := T62) (f' := (mkF m 24 #[.val (.int kk), .val (.ref wS), .val (.ref bv), .val (.int (2 : Int32)), .val (.int ((0 : Int32) + (1 : Int32))), .val (.ref wM)] [])) (fun _ k => XS.astore X62.here hx rfl (hb hby d1_22) rfl rfl (l' := #[.val (.int kk), .val (.ref wS), .val (.ref bv), .val (.int (2 : Int32)), .val (.int ((0 : Int32) + (1 : Int32))), .val (.ref wM)]) rfl k) ?_
    refine own_lift (T' := T62) (f' := (mkF m 26 #[.val (.int kk), .val (.ref wS), .val (.ref bv), .val (.int (2 : Int32)), .val (.int ((0 : Int32) + (1 : Int32))), .val (.ref wM)] [(.ref wM)])) (fun _ k => XS.aload X62.here hx rfl (hb hby d1_24) rfl rfl k) ?_
    obtain ⟨T63, X63, e63, st63⟩ := getF X62 hx hZ hown (host := "") (Or.inl (hw _ (List.mem_of_getElem? (i := 21) rfl))) Via.refl e62 (F_M.ext xv) (g := (mkF m 26 #[.val (.int kk), .val (.ref wS), .val (.ref bv), .val (.int (2 : Int32)), .val (.int ((0 : Int32) + (1 : Int32))), .val (.ref wM)] [(.ref wM)])) rfl rfl (hb hby d1_26)
    refine own_lift (T' := T63) (f' := (mkF m 29 #[.val (.int kk), .val (.ref wS), .val (.ref bv), .val (.int (2 : Int32)), .val (.int ((0 : Int32) + (1 : Int32))), .val (.ref wM)] [(.int (32 : Int32))])) (st63) ?_
    refine own_lift (T' := T63) (f' := (mkF m 30 #[.val (.int kk), .val (.ref wS), .val (.ref bv), .val (.int (2 : Int32)), .val (.int ((0 : Int32) + (1 : Int32))), .val (.ref wM)] [(.int kk), (.int (32 : Int32))])) (fun _ k => XS.iloadN X63.here hx rfl (hb hby d1_29) rfl k) ?_
    refine own_lift (T' := T63) (f' := (mkF m 36 #[.val (.int kk), .val (.ref wS), .val (.ref bv), .val (.int (2 : Int32)), .val (.int ((0 : Int32) + (1 : Int32))), .val (.ref wM)] [])) (fun _ k => XS.icmpYes X63.here hx rfl (pc0 := 30) (pc' := 36) rfl (hb hby d1_30) rfl (feq (fun q => absurd (q.trans k64) (by decide))).2 (by decide) (by decide) k) ?_
    refine own_lift (T' := T63) (f' := (mkF m 39 #[.val (.int kk), .val (.ref wS), .val (.ref bv), .val (.int (2 : Int32)), .val (.int (((0 : Int32) + (1 : Int32)) + (1 : Int32))), .val (.ref wM)] [])) (fun _ k => XS.iinc X63.here hx rfl (hb hby d1_36) rfl (l' := #[.val (.int kk), .val (.ref wS), .val (.ref bv), .val (.int (2 : Int32)), .val (.int (((0 : Int32) + (1 : Int32)) + (1 : Int32))), .val (.ref wM)]) rfl k) ?_
    refine own_lift (T' := T63) (f' := (mkF m 12 #[.val (.int kk), .val (.ref wS), .val (.ref bv), .val (.int (2 : Int32)), .val (.int (((0 : Int32) + (1 : Int32)) + (1 : Int32))), .val (.ref wM)] [])) (fun _ k => XS.goto X63.here hx rfl (pc0 := 39) (pc' := 12) rfl (hb hby d1_39) (by decide) (by decide) k) ?_
    refine own_lift (T' := T63) (f' := (mkF m 14 #[.val (.int kk), .val (.ref wS), .val (.ref bv), .val (.int (2 : Int32)), .val (.int (((0 : Int32) + (1 : Int32)) + (1 : Int32))), .val (.ref wM)] [(.int (((0 : Int32) + (1 : Int32)) + (1 : Int32)))])) (fun _ k => XS.iload X63.here hx rfl (hb hby d1_12) rfl k) ?_
    refine own_lift (T' := T63) (f' := (mkF m 15 #[.val (.int kk), .val (.ref wS), .val (.ref bv), .val (.int (2 : Int32)), .val (.int (((0 : Int32) + (1 : Int32)) + (1 : Int32))), .val (.ref wM)] [(.int (2 : Int32)), (.int (((0 : Int32) + (1 : Int32)) + (1 : Int32)))])) (fun _ k => XS.iloadN X63.here hx rfl (hb hby d1_14) rfl k) ?_
    refine own_lift (T' := T63) (f' := (mkF m 42 #[.val (.int kk), .val (.ref wS), .val (.ref bv), .val (.int (2 : Int32)), .val (.int (((0 : Int32) + (1 : Int32)) + (1 : Int32))), .val (.ref wM)] [])) (fun _ k => XS.icmpYes X63.here hx rfl (pc0 := 15) (pc' := 42) rfl (hb hby d1_15) rfl (flt (by decide)).2.1 (by decide) (by decide) k) ?_
    refine own_lift (T' := T63) (f' := (mkF m 43 #[.val (.int kk), .val (.ref wS), .val (.ref bv), .val (.int (2 : Int32)), .val (.int (((0 : Int32) + (1 : Int32)) + (1 : Int32))), .val (.ref wM)] [(.ref wS)])) (fun _ k => XS.aloadN X63.here hx rfl (hb hby d1_42) rfl rfl k) ?_
    obtain ⟨_, _, ⟨To, Lo, ko, no⟩, -, Xo, ⟨Lco, hQo, lo, yo, zo⟩, sto⟩ := Jvm.LawKit.callS X63 hx (y := (⟨"java/util/Optional", "ofNullable", "(Ljava/lang/Object;)Ljava/util/Optional;"⟩ : MethodName)) hown (mvT hZ (hw _ (List.mem_of_getElem? (i := 23) rfl))) (mvT hZ (hw _ (List.mem_of_getElem? (i := 24) rfl))) (mvT hZ (hw _ (List.mem_of_getElem? (i := 25) rfl))) (mvT hZ (hw _ (List.mem_of_getElem? (i := 26) rfl))) (by decide) (backOf (W := 0) (rm3 l Z a0 hw [] (.ref wS) rfl wE hv1 n0 (Nat.le_trans Z0 xv.1) (S_EMPTY.ext xv) (E_E.ext xv) (F_E.ext xv)) hZ (hw _ (List.mem_of_getElem? (i := 26) rfl)) (hw _ (List.mem_of_getElem? (i := 25) rfl)) (by decide) (by decide)) (g := (mkF m 43 #[.val (.int kk), .val (.ref wS), .val (.ref bv), .val (.int (2 : Int32)), .val (.int (((0 : Int32) + (1 : Int32)) + (1 : Int32))), .val (.ref wM)] [(.ref wS)])) rfl (by rw [hml]; rfl) (argsL := [(.ref wS)]) (rest := []) (lenOf pd_3 rfl) rfl (by show 2 * 0 + _ ≤ _; exact Nat.le_of_eq rfl) (hb hby d1_43) (fun _ _ => ⟨rfl, e63, Nat.le_of_ble_eq_true rfl, Nat.le_of_ble_eq_true rfl⟩)
    dsimp only [Pt.U, Pt.locs, Pt.cells, Pt.slots] at Xo lo yo zo sto hQo
    subst lo yo zo
    obtain ⟨bo, rfl, No, xo, Eo, Fo⟩ := hQo
    refine own_lift (T' := To) (f' := (mkF m 46 #[.val (.int kk), .val (.ref wS), .val (.ref bv), .val (.int (2 : Int32)), .val (.int (((0 : Int32) + (1 : Int32)) + (1 : Int32))), .val (.ref wM)] [(.ref bo)])) (sto) ?_
    exact own_retG Xo hx hlk Bd.returns rfl (Or.inr (Or.inr (Or.inr (Or.inr ⟨rfl, rfl, rfl⟩)))) (hb hby d1_46) ⟨bo, rfl, Fr.app (Fr.app N0 Nv) No, own_ext_trans xv xo, Eo, Fo⟩ (by decide) (by decide)
  by_cases k32 : kk = 32
  · obtain rfl : pv = (.ref wM) := by rw [hv]; simp [k32]
    refine own_lift (T' := Tv) (f' := (mkF m 18 #[.val (.int kk), .val .null, .val (.ref bv), .val (.int (2 : Int32)), .val (.int (0 : Int32)), .unset] [])) (fun _ k => XS.icmpNo Xv.here hx rfl (hb hby d1_15) rfl (tlt (by decide)).2.1 k) ?_
    refine own_lift (T' := Tv) (f' := (mkF m 19 #[.val (.int kk), .val .null, .val (.ref bv), .val (.int (2 : Int32)), .val (.int (0 : Int32)), .unset] [(.ref bv)])) (fun _ k => XS.aloadN Xv.here hx rfl (hb hby d1_18) rfl rfl k) ?_
    refine own_lift (T' := Tv) (f' := (mkF m 21 #[.val (.int kk), .val .null, .val (.ref bv), .val (.int (2 : Int32)), .val (.int (0 : Int32)), .unset] [(.int (0 : Int32)), (.ref bv)])) (fun _ k => XS.iload Xv.here hx rfl (hb hby d1_19) rfl k) ?_
    have hin0 : ¬ ((0 : Int32) < 0 ∨ (cloneOf cl).slots.size ≤ ((0 : Int32)).toNatClampNeg) := by rw [show (cloneOf cl).slots.size = 2 from hsz]; decide
    have hat0 : (cloneOf cl).slots[((0 : Int32)).toNatClampNeg]? = some (.ref wS) := by rw [show ((0 : Int32)).toNatClampNeg = 0 from by decide]; exact el0
    refine own_lift (T' := Tv) (f' := (mkF m 22 #[.val (.int kk), .val .null, .val (.ref bv), .val (.int (2 : Int32)), .val (.int (0 : Int32)), .unset] [(.ref wS)])) (fun t k => Xv.aaload hx (j := (0 : Int32)) (v := .ref wS) (by rw [ev]; exact Av.1) (State.isArrayOf_alike hZ.alike Av.2.1) rfl Av.2.2 hin0 hat0 (g := (mkF m 21 #[.val (.int kk), .val .null, .val (.ref bv), .val (.int (2 : Int32)), .val (.int (0 : Int32)), .unset] [(.int (0 : Int32)), (.ref bv)])) rfl rfl (hb hby d1_21) t k) ?_
    refine own_lift (T' := Tv) (f' := (mkF m 24 #[.val (.int kk), .val .null, .val (.ref bv), .val (.int (2 : Int32)), .val (.int (0 : Int32)), .val (.ref wS)] [])) (fun _ k => XS.astore Xv.here hx rfl (hb hby d1_22) rfl rfl (l' := #[.val (.int kk), .val .null, .val (.ref bv), .val (.int (2 : Int32)), .val (.int (0 : Int32)), .val (.ref wS)]) rfl k) ?_
    refine own_lift (T' := Tv) (f' := (mkF m 26 #[.val (.int kk), .val .null, .val (.ref bv), .val (.int (2 : Int32)), .val (.int (0 : Int32)), .val (.ref wS)] [(.ref wS)])) (fun _ k => XS.aload Xv.here hx rfl (hb hby d1_24) rfl rfl k) ?_
    obtain ⟨T64, X64, e64, st64⟩ := getF Xv hx hZ hown (host := "") (Or.inl (hw _ (List.mem_of_getElem? (i := 21) rfl))) Via.refl ev (F_S.ext xv) (g := (mkF m 26 #[.val (.int kk), .val .null, .val (.ref bv), .val (.int (2 : Int32)), .val (.int (0 : Int32)), .val (.ref wS)] [(.ref wS)])) rfl rfl (hb hby d1_26)
    refine own_lift (T' := T64) (f' := (mkF m 29 #[.val (.int kk), .val .null, .val (.ref bv), .val (.int (2 : Int32)), .val (.int (0 : Int32)), .val (.ref wS)] [(.int (64 : Int32))])) (st64) ?_
    refine own_lift (T' := T64) (f' := (mkF m 30 #[.val (.int kk), .val .null, .val (.ref bv), .val (.int (2 : Int32)), .val (.int (0 : Int32)), .val (.ref wS)] [(.int kk), (.int (64 : Int32))])) (fun _ k => XS.iloadN X64.here hx rfl (hb hby d1_29) rfl k) ?_
    refine own_lift (T' := T64) (f' := (mkF m 36 #[.val (.int kk), .val .null, .val (.ref bv), .val (.int (2 : Int32)), .val (.int (0 : Int32)), .val (.ref wS)] [])) (fun _ k => XS.icmpYes X64.here hx rfl (pc0 := 30) (pc' := 36) rfl (hb hby d1_30) rfl (feq (fun q => k64 q.symm)).2 (by decide) (by decide) k) ?_
    refine own_lift (T' := T64) (f' := (mkF m 39 #[.val (.int kk), .val .null, .val (.ref bv), .val (.int (2 : Int32)), .val (.int ((0 : Int32) + (1 : Int32))), .val (.ref wS)] [])) (fun _ k => XS.iinc X64.here hx rfl (hb hby d1_36) rfl (l' := #[.val (.int kk), .val .null, .val (.ref bv), .val (.int (2 : Int32)), .val (.int ((0 : Int32) + (1 : Int32))), .val (.ref wS)]) rfl k) ?_
    refine own_lift (T' := T64) (f' := (mkF m 12 #[.val (.int kk), .val .null, .val (.ref bv), .val (.int (2 : Int32)), .val (.int ((0 : Int32) + (1 : Int32))), .val (.ref wS)] [])) (fun _ k => XS.goto X64.here hx rfl (pc0 := 39) (pc' := 12) rfl (hb hby d1_39) (by decide) (by decide) k) ?_
    refine own_lift (T' := T64) (f' := (mkF m 14 #[.val (.int kk), .val .null, .val (.ref bv), .val (.int (2 : Int32)), .val (.int ((0 : Int32) + (1 : Int32))), .val (.ref wS)] [(.int ((0 : Int32) + (1 : Int32)))])) (fun _ k => XS.iload X64.here hx rfl (hb hby d1_12) rfl k) ?_
    refine own_lift (T' := T64) (f' := (mkF m 15 #[.val (.int kk), .val .null, .val (.ref bv), .val (.int (2 : Int32)), .val (.int ((0 : Int32) + (1 : Int32))), .val (.ref wS)] [(.int (2 : Int32)), (.int ((0 : Int32) + (1 : Int32)))])) (fun _ k => XS.iloadN X64.here hx rfl (hb hby d1_14) rfl k) ?_
    refine own_lift (T' := T64) (f' := (mkF m 18 #[.val (.int kk), .val .null, .val (.ref bv), .val (.int (2 : Int32)), .val (.int ((0 : Int32) + (1 : Int32))), .val (.ref wS)] [])) (fun _ k => XS.icmpNo X64.here hx rfl (hb hby d1_15) rfl (tlt (by decide)).2.1 k) ?_
    refine own_lift (T' := T64) (f' := (mkF m 19 #[.val (.int kk), .val .null, .val (.ref bv), .val (.int (2 : Int32)), .val (.int ((0 : Int32) + (1 : Int32))), .val (.ref wS)] [(.ref bv)])) (fun _ k => XS.aloadN X64.here hx rfl (hb hby d1_18) rfl rfl k) ?_
    refine own_lift (T' := T64) (f' := (mkF m 21 #[.val (.int kk), .val .null, .val (.ref bv), .val (.int (2 : Int32)), .val (.int ((0 : Int32) + (1 : Int32))), .val (.ref wS)] [(.int ((0 : Int32) + (1 : Int32))), (.ref bv)])) (fun _ k => XS.iload X64.here hx rfl (hb hby d1_19) rfl k) ?_
    have hin1 : ¬ (((0 : Int32) + (1 : Int32)) < 0 ∨ (cloneOf cl).slots.size ≤ (((0 : Int32) + (1 : Int32))).toNatClampNeg) := by rw [show (cloneOf cl).slots.size = 2 from hsz]; decide
    have hat1 : (cloneOf cl).slots[(((0 : Int32) + (1 : Int32))).toNatClampNeg]? = some (.ref wM) := by rw [show (((0 : Int32) + (1 : Int32))).toNatClampNeg = 1 from by decide]; exact el1
    refine own_lift (T' := T64) (f' := (mkF m 22 #[.val (.int kk), .val .null, .val (.ref bv), .val (.int (2 : Int32)), .val (.int ((0 : Int32) + (1 : Int32))), .val (.ref wS)] [(.ref wM)])) (fun t k => X64.aaload hx (j := ((0 : Int32) + (1 : Int32))) (v := .ref wM) (by rw [e64]; exact Av.1) (State.isArrayOf_alike hZ.alike Av.2.1) rfl Av.2.2 hin1 hat1 (g := (mkF m 21 #[.val (.int kk), .val .null, .val (.ref bv), .val (.int (2 : Int32)), .val (.int ((0 : Int32) + (1 : Int32))), .val (.ref wS)] [(.int ((0 : Int32) + (1 : Int32))), (.ref bv)])) rfl rfl (hb hby d1_21) t k) ?_
    refine own_lift (T' := T64) (f' := (mkF m 24 #[.val (.int kk), .val .null, .val (.ref bv), .val (.int (2 : Int32)), .val (.int ((0 : Int32) + (1 : Int32))), .val (.ref wM)] [])) (fun _ k => XS.astore X64.here hx rfl (hb hby d1_22) rfl rfl (l' := #[.val (.int kk), .val .null, .val (.ref bv), .val (.int (2 : Int32)), .val (.int ((0 : Int32) + (1 : Int32))), .val (.ref wM)]) rfl k) ?_
    refine own_lift (T' := T64) (f' := (mkF m 26 #[.val (.int kk), .val .null, .val (.ref bv), .val (.int (2 : Int32)), .val (.int ((0 : Int32) + (1 : Int32))), .val (.ref wM)] [(.ref wM)])) (fun _ k => XS.aload X64.here hx rfl (hb hby d1_24) rfl rfl k) ?_
    obtain ⟨T65, X65, e65, st65⟩ := getF X64 hx hZ hown (host := "") (Or.inl (hw _ (List.mem_of_getElem? (i := 21) rfl))) Via.refl e64 (F_M.ext xv) (g := (mkF m 26 #[.val (.int kk), .val .null, .val (.ref bv), .val (.int (2 : Int32)), .val (.int ((0 : Int32) + (1 : Int32))), .val (.ref wM)] [(.ref wM)])) rfl rfl (hb hby d1_26)
    refine own_lift (T' := T65) (f' := (mkF m 29 #[.val (.int kk), .val .null, .val (.ref bv), .val (.int (2 : Int32)), .val (.int ((0 : Int32) + (1 : Int32))), .val (.ref wM)] [(.int (32 : Int32))])) (st65) ?_
    refine own_lift (T' := T65) (f' := (mkF m 30 #[.val (.int kk), .val .null, .val (.ref bv), .val (.int (2 : Int32)), .val (.int ((0 : Int32) + (1 : Int32))), .val (.ref wM)] [(.int kk), (.int (32 : Int32))])) (fun _ k => XS.iloadN X65.here hx rfl (hb hby d1_29) rfl k) ?_
    refine own_lift (T' := T65) (f' := (mkF m 33 #[.val (.int kk), .val .null, .val (.ref bv), .val (.int (2 : Int32)), .val (.int ((0 : Int32) + (1 : Int32))), .val (.ref wM)] [])) (fun _ k => XS.icmpNo X65.here hx rfl (hb hby d1_30) rfl (teq k32.symm).2 k) ?_
    refine own_lift (T' := T65) (f' := (mkF m 35 #[.val (.int kk), .val .null, .val (.ref bv), .val (.int (2 : Int32)), .val (.int ((0 : Int32) + (1 : Int32))), .val (.ref wM)] [(.ref wM)])) (fun _ k => XS.aload X65.here hx rfl (hb hby d1_33) rfl rfl k) ?_
    refine own_lift (T' := T65) (f' := (mkF m 36 #[.val (.int kk), .val (.ref wM), .val (.ref bv), .val (.int (2 : Int32)), .val (.int ((0 : Int32) + (1 : Int32))), .val (.ref wM)] [])) (fun _ k => XS.astoreN X65.here hx rfl (hb hby d1_35) rfl rfl (l' := #[.val (.int kk), .val (.ref wM), .val (.ref bv), .val (.int (2 : Int32)), .val (.int ((0 : Int32) + (1 : Int32))), .val (.ref wM)]) rfl k) ?_
    refine own_lift (T' := T65) (f' := (mkF m 39 #[.val (.int kk), .val (.ref wM), .val (.ref bv), .val (.int (2 : Int32)), .val (.int (((0 : Int32) + (1 : Int32)) + (1 : Int32))), .val (.ref wM)] [])) (fun _ k => XS.iinc X65.here hx rfl (hb hby d1_36) rfl (l' := #[.val (.int kk), .val (.ref wM), .val (.ref bv), .val (.int (2 : Int32)), .val (.int (((0 : Int32) + (1 : Int32)) + (1 : Int32))), .val (.ref wM)]) rfl k) ?_
    refine own_lift (T' := T65) (f' := (mkF m 12 #[.val (.int kk), .val (.ref wM), .val (.ref bv), .val (.int (2 : Int32)), .val (.int (((0 : Int32) + (1 : Int32)) + (1 : Int32))), .val (.ref wM)] [])) (fun _ k => XS.goto X65.here hx rfl (pc0 := 39) (pc' := 12) rfl (hb hby d1_39) (by decide) (by decide) k) ?_
    refine own_lift (T' := T65) (f' := (mkF m 14 #[.val (.int kk), .val (.ref wM), .val (.ref bv), .val (.int (2 : Int32)), .val (.int (((0 : Int32) + (1 : Int32)) + (1 : Int32))), .val (.ref wM)] [(.int (((0 : Int32) + (1 : Int32)) + (1 : Int32)))])) (fun _ k => XS.iload X65.here hx rfl (hb hby d1_12) rfl k) ?_
    refine own_lift (T' := T65) (f' := (mkF m 15 #[.val (.int kk), .val (.ref wM), .val (.ref bv), .val (.int (2 : Int32)), .val (.int (((0 : Int32) + (1 : Int32)) + (1 : Int32))), .val (.ref wM)] [(.int (2 : Int32)), (.int (((0 : Int32) + (1 : Int32)) + (1 : Int32)))])) (fun _ k => XS.iloadN X65.here hx rfl (hb hby d1_14) rfl k) ?_
    refine own_lift (T' := T65) (f' := (mkF m 42 #[.val (.int kk), .val (.ref wM), .val (.ref bv), .val (.int (2 : Int32)), .val (.int (((0 : Int32) + (1 : Int32)) + (1 : Int32))), .val (.ref wM)] [])) (fun _ k => XS.icmpYes X65.here hx rfl (pc0 := 15) (pc' := 42) rfl (hb hby d1_15) rfl (flt (by decide)).2.1 (by decide) (by decide) k) ?_
    refine own_lift (T' := T65) (f' := (mkF m 43 #[.val (.int kk), .val (.ref wM), .val (.ref bv), .val (.int (2 : Int32)), .val (.int (((0 : Int32) + (1 : Int32)) + (1 : Int32))), .val (.ref wM)] [(.ref wM)])) (fun _ k => XS.aloadN X65.here hx rfl (hb hby d1_42) rfl rfl k) ?_
    obtain ⟨_, _, ⟨To, Lo, ko, no⟩, -, Xo, ⟨Lco, hQo, lo, yo, zo⟩, sto⟩ := Jvm.LawKit.callS X65 hx (y := (⟨"java/util/Optional", "ofNullable", "(Ljava/lang/Object;)Ljava/util/Optional;"⟩ : MethodName)) hown (mvT hZ (hw _ (List.mem_of_getElem? (i := 23) rfl))) (mvT hZ (hw _ (List.mem_of_getElem? (i := 24) rfl))) (mvT hZ (hw _ (List.mem_of_getElem? (i := 25) rfl))) (mvT hZ (hw _ (List.mem_of_getElem? (i := 26) rfl))) (by decide) (backOf (W := 0) (rm3 l Z a0 hw [] (.ref wM) rfl wE hv1 n0 (Nat.le_trans Z0 xv.1) (S_EMPTY.ext xv) (E_E.ext xv) (F_E.ext xv)) hZ (hw _ (List.mem_of_getElem? (i := 26) rfl)) (hw _ (List.mem_of_getElem? (i := 25) rfl)) (by decide) (by decide)) (g := (mkF m 43 #[.val (.int kk), .val (.ref wM), .val (.ref bv), .val (.int (2 : Int32)), .val (.int (((0 : Int32) + (1 : Int32)) + (1 : Int32))), .val (.ref wM)] [(.ref wM)])) rfl (by rw [hml]; rfl) (argsL := [(.ref wM)]) (rest := []) (lenOf pd_3 rfl) rfl (by show 2 * 0 + _ ≤ _; exact Nat.le_of_eq rfl) (hb hby d1_43) (fun _ _ => ⟨rfl, e65, Nat.le_of_ble_eq_true rfl, Nat.le_of_ble_eq_true rfl⟩)
    dsimp only [Pt.U, Pt.locs, Pt.cells, Pt.slots] at Xo lo yo zo sto hQo
    subst lo yo zo
    obtain ⟨bo, rfl, No, xo, Eo, Fo⟩ := hQo
    refine own_lift (T' := To) (f' := (mkF m 46 #[.val (.int kk), .val (.ref wM), .val (.ref bv), .val (.int (2 : Int32)), .val (.int (((0 : Int32) + (1 : Int32)) + (1 : Int32))), .val (.ref wM)] [(.ref bo)])) (sto) ?_
    exact own_retG Xo hx hlk Bd.returns rfl (Or.inr (Or.inr (Or.inr (Or.inr ⟨rfl, rfl, rfl⟩)))) (hb hby d1_46) ⟨bo, rfl, Fr.app (Fr.app N0 Nv) No, own_ext_trans xv xo, Eo, Fo⟩ (by decide) (by decide)
  · obtain rfl : pv = .null := by rw [hv]; simp [k64, k32]
    refine own_lift (T' := Tv) (f' := (mkF m 18 #[.val (.int kk), .val .null, .val (.ref bv), .val (.int (2 : Int32)), .val (.int (0 : Int32)), .unset] [])) (fun _ k => XS.icmpNo Xv.here hx rfl (hb hby d1_15) rfl (tlt (by decide)).2.1 k) ?_
    refine own_lift (T' := Tv) (f' := (mkF m 19 #[.val (.int kk), .val .null, .val (.ref bv), .val (.int (2 : Int32)), .val (.int (0 : Int32)), .unset] [(.ref bv)])) (fun _ k => XS.aloadN Xv.here hx rfl (hb hby d1_18) rfl rfl k) ?_
    refine own_lift (T' := Tv) (f' := (mkF m 21 #[.val (.int kk), .val .null, .val (.ref bv), .val (.int (2 : Int32)), .val (.int (0 : Int32)), .unset] [(.int (0 : Int32)), (.ref bv)])) (fun _ k => XS.iload Xv.here hx rfl (hb hby d1_19) rfl k) ?_
    have hin0 : ¬ ((0 : Int32) < 0 ∨ (cloneOf cl).slots.size ≤ ((0 : Int32)).toNatClampNeg) := by rw [show (cloneOf cl).slots.size = 2 from hsz]; decide
    have hat0 : (cloneOf cl).slots[((0 : Int32)).toNatClampNeg]? = some (.ref wS) := by rw [show ((0 : Int32)).toNatClampNeg = 0 from by decide]; exact el0
    refine own_lift (T' := Tv) (f' := (mkF m 22 #[.val (.int kk), .val .null, .val (.ref bv), .val (.int (2 : Int32)), .val (.int (0 : Int32)), .unset] [(.ref wS)])) (fun t k => Xv.aaload hx (j := (0 : Int32)) (v := .ref wS) (by rw [ev]; exact Av.1) (State.isArrayOf_alike hZ.alike Av.2.1) rfl Av.2.2 hin0 hat0 (g := (mkF m 21 #[.val (.int kk), .val .null, .val (.ref bv), .val (.int (2 : Int32)), .val (.int (0 : Int32)), .unset] [(.int (0 : Int32)), (.ref bv)])) rfl rfl (hb hby d1_21) t k) ?_
    refine own_lift (T' := Tv) (f' := (mkF m 24 #[.val (.int kk), .val .null, .val (.ref bv), .val (.int (2 : Int32)), .val (.int (0 : Int32)), .val (.ref wS)] [])) (fun _ k => XS.astore Xv.here hx rfl (hb hby d1_22) rfl rfl (l' := #[.val (.int kk), .val .null, .val (.ref bv), .val (.int (2 : Int32)), .val (.int (0 : Int32)), .val (.ref wS)]) rfl k) ?_
    refine own_lift (T' := Tv) (f' := (mkF m 26 #[.val (.int kk), .val .null, .val (.ref bv), .val (.int (2 : Int32)), .val (.int (0 : Int32)), .val (.ref wS)] [(.ref wS)])) (fun _ k => XS.aload Xv.here hx rfl (hb hby d1_24) rfl rfl k) ?_
    obtain ⟨T66, X66, e66, st66⟩ := getF Xv hx hZ hown (host := "") (Or.inl (hw _ (List.mem_of_getElem? (i := 21) rfl))) Via.refl ev (F_S.ext xv) (g := (mkF m 26 #[.val (.int kk), .val .null, .val (.ref bv), .val (.int (2 : Int32)), .val (.int (0 : Int32)), .val (.ref wS)] [(.ref wS)])) rfl rfl (hb hby d1_26)
    refine own_lift (T' := T66) (f' := (mkF m 29 #[.val (.int kk), .val .null, .val (.ref bv), .val (.int (2 : Int32)), .val (.int (0 : Int32)), .val (.ref wS)] [(.int (64 : Int32))])) (st66) ?_
    refine own_lift (T' := T66) (f' := (mkF m 30 #[.val (.int kk), .val .null, .val (.ref bv), .val (.int (2 : Int32)), .val (.int (0 : Int32)), .val (.ref wS)] [(.int kk), (.int (64 : Int32))])) (fun _ k => XS.iloadN X66.here hx rfl (hb hby d1_29) rfl k) ?_
    refine own_lift (T' := T66) (f' := (mkF m 36 #[.val (.int kk), .val .null, .val (.ref bv), .val (.int (2 : Int32)), .val (.int (0 : Int32)), .val (.ref wS)] [])) (fun _ k => XS.icmpYes X66.here hx rfl (pc0 := 30) (pc' := 36) rfl (hb hby d1_30) rfl (feq (fun q => k64 q.symm)).2 (by decide) (by decide) k) ?_
    refine own_lift (T' := T66) (f' := (mkF m 39 #[.val (.int kk), .val .null, .val (.ref bv), .val (.int (2 : Int32)), .val (.int ((0 : Int32) + (1 : Int32))), .val (.ref wS)] [])) (fun _ k => XS.iinc X66.here hx rfl (hb hby d1_36) rfl (l' := #[.val (.int kk), .val .null, .val (.ref bv), .val (.int (2 : Int32)), .val (.int ((0 : Int32) + (1 : Int32))), .val (.ref wS)]) rfl k) ?_
    refine own_lift (T' := T66) (f' := (mkF m 12 #[.val (.int kk), .val .null, .val (.ref bv), .val (.int (2 : Int32)), .val (.int ((0 : Int32) + (1 : Int32))), .val (.ref wS)] [])) (fun _ k => XS.goto X66.here hx rfl (pc0 := 39) (pc' := 12) rfl (hb hby d1_39) (by decide) (by decide) k) ?_
    refine own_lift (T' := T66) (f' := (mkF m 14 #[.val (.int kk), .val .null, .val (.ref bv), .val (.int (2 : Int32)), .val (.int ((0 : Int32) + (1 : Int32))), .val (.ref wS)] [(.int ((0 : Int32) + (1 : Int32)))])) (fun _ k => XS.iload X66.here hx rfl (hb hby d1_12) rfl k) ?_
    refine own_lift (T' := T66) (f' := (mkF m 15 #[.val (.int kk), .val .null, .val (.ref bv), .val (.int (2 : Int32)), .val (.int ((0 : Int32) + (1 : Int32))), .val (.ref wS)] [(.int (2 : Int32)), (.int ((0 : Int32) + (1 : Int32)))])) (fun _ k => XS.iloadN X66.here hx rfl (hb hby d1_14) rfl k) ?_
    refine own_lift (T' := T66) (f' := (mkF m 18 #[.val (.int kk), .val .null, .val (.ref bv), .val (.int (2 : Int32)), .val (.int ((0 : Int32) + (1 : Int32))), .val (.ref wS)] [])) (fun _ k => XS.icmpNo X66.here hx rfl (hb hby d1_15) rfl (tlt (by decide)).2.1 k) ?_
    refine own_lift (T' := T66) (f' := (mkF m 19 #[.val (.int kk), .val .null, .val (.ref bv), .val (.int (2 : Int32)), .val (.int ((0 : Int32) + (1 : Int32))), .val (.ref wS)] [(.ref bv)])) (fun _ k => XS.aloadN X66.here hx rfl (hb hby d1_18) rfl rfl k) ?_
    refine own_lift (T' := T66) (f' := (mkF m 21 #[.val (.int kk), .val .null, .val (.ref bv), .val (.int (2 : Int32)), .val (.int ((0 : Int32) + (1 : Int32))), .val (.ref wS)] [(.int ((0 : Int32) + (1 : Int32))), (.ref bv)])) (fun _ k => XS.iload X66.here hx rfl (hb hby d1_19) rfl k) ?_
    have hin1 : ¬ (((0 : Int32) + (1 : Int32)) < 0 ∨ (cloneOf cl).slots.size ≤ (((0 : Int32) + (1 : Int32))).toNatClampNeg) := by rw [show (cloneOf cl).slots.size = 2 from hsz]; decide
    have hat1 : (cloneOf cl).slots[(((0 : Int32) + (1 : Int32))).toNatClampNeg]? = some (.ref wM) := by rw [show (((0 : Int32) + (1 : Int32))).toNatClampNeg = 1 from by decide]; exact el1
    refine own_lift (T' := T66) (f' := (mkF m 22 #[.val (.int kk), .val .null, .val (.ref bv), .val (.int (2 : Int32)), .val (.int ((0 : Int32) + (1 : Int32))), .val (.ref wS)] [(.ref wM)])) (fun t k => X66.aaload hx (j := ((0 : Int32) + (1 : Int32))) (v := .ref wM) (by rw [e66]; exact Av.1) (State.isArrayOf_alike hZ.alike Av.2.1) rfl Av.2.2 hin1 hat1 (g := (mkF m 21 #[.val (.int kk), .val .null, .val (.ref bv), .val (.int (2 : Int32)), .val (.int ((0 : Int32) + (1 : Int32))), .val (.ref wS)] [(.int ((0 : Int32) + (1 : Int32))), (.ref bv)])) rfl rfl (hb hby d1_21) t k) ?_
    refine own_lift (T' := T66) (f' := (mkF m 24 #[.val (.int kk), .val .null, .val (.ref bv), .val (.int (2 : Int32)), .val (.int ((0 : Int32) + (1 : Int32))), .val (.ref wM)] [])) (fun _ k => XS.astore X66.here hx rfl (hb hby d1_22) rfl rfl (l' := #[.val (.int kk), .val .null, .val (.ref bv), .val (.int (2 : Int32)), .val (.int ((0 : Int32) + (1 : Int32))), .val (.ref wM)]) rfl k) ?_
    refine own_lift (T' := T66) (f' := (mkF m 26 #[.val (.int kk), .val .null, .val (.ref bv), .val (.int (2 : Int32)), .val (.int ((0 : Int32) + (1 : Int32))), .val (.ref wM)] [(.ref wM)])) (fun _ k => XS.aload X66.here hx rfl (hb hby d1_24) rfl rfl k) ?_
    obtain ⟨T67, X67, e67, st67⟩ := getF X66 hx hZ hown (host := "") (Or.inl (hw _ (List.mem_of_getElem? (i := 21) rfl))) Via.refl e66 (F_M.ext xv) (g := (mkF m 26 #[.val (.int kk), .val .null, .val (.ref bv), .val (.int (2 : Int32)), .val (.int ((0 : Int32) + (1 : Int32))), .val (.ref wM)] [(.ref wM)])) rfl rfl (hb hby d1_26)
    refine own_lift (T' := T67) (f' := (mkF m 29 #[.val (.int kk), .val .null, .val (.ref bv), .val (.int (2 : Int32)), .val (.int ((0 : Int32) + (1 : Int32))), .val (.ref wM)] [(.int (32 : Int32))])) (st67) ?_
    refine own_lift (T' := T67) (f' := (mkF m 30 #[.val (.int kk), .val .null, .val (.ref bv), .val (.int (2 : Int32)), .val (.int ((0 : Int32) + (1 : Int32))), .val (.ref wM)] [(.int kk), (.int (32 : Int32))])) (fun _ k => XS.iloadN X67.here hx rfl (hb hby d1_29) rfl k) ?_
    refine own_lift (T' := T67) (f' := (mkF m 36 #[.val (.int kk), .val .null, .val (.ref bv), .val (.int (2 : Int32)), .val (.int ((0 : Int32) + (1 : Int32))), .val (.ref wM)] [])) (fun _ k => XS.icmpYes X67.here hx rfl (pc0 := 30) (pc' := 36) rfl (hb hby d1_30) rfl (feq (fun q => k32 q.symm)).2 (by decide) (by decide) k) ?_
    refine own_lift (T' := T67) (f' := (mkF m 39 #[.val (.int kk), .val .null, .val (.ref bv), .val (.int (2 : Int32)), .val (.int (((0 : Int32) + (1 : Int32)) + (1 : Int32))), .val (.ref wM)] [])) (fun _ k => XS.iinc X67.here hx rfl (hb hby d1_36) rfl (l' := #[.val (.int kk), .val .null, .val (.ref bv), .val (.int (2 : Int32)), .val (.int (((0 : Int32) + (1 : Int32)) + (1 : Int32))), .val (.ref wM)]) rfl k) ?_
    refine own_lift (T' := T67) (f' := (mkF m 12 #[.val (.int kk), .val .null, .val (.ref bv), .val (.int (2 : Int32)), .val (.int (((0 : Int32) + (1 : Int32)) + (1 : Int32))), .val (.ref wM)] [])) (fun _ k => XS.goto X67.here hx rfl (pc0 := 39) (pc' := 12) rfl (hb hby d1_39) (by decide) (by decide) k) ?_
    refine own_lift (T' := T67) (f' := (mkF m 14 #[.val (.int kk), .val .null, .val (.ref bv), .val (.int (2 : Int32)), .val (.int (((0 : Int32) + (1 : Int32)) + (1 : Int32))), .val (.ref wM)] [(.int (((0 : Int32) + (1 : Int32)) + (1 : Int32)))])) (fun _ k => XS.iload X67.here hx rfl (hb hby d1_12) rfl k) ?_
    refine own_lift (T' := T67) (f' := (mkF m 15 #[.val (.int kk), .val .null, .val (.ref bv), .val (.int (2 : Int32)), .val (.int (((0 : Int32) + (1 : Int32)) + (1 : Int32))), .val (.ref wM)] [(.int (2 : Int32)), (.int (((0 : Int32) + (1 : Int32)) + (1 : Int32)))])) (fun _ k => XS.iloadN X67.here hx rfl (hb hby d1_14) rfl k) ?_
    refine own_lift (T' := T67) (f' := (mkF m 42 #[.val (.int kk), .val .null, .val (.ref bv), .val (.int (2 : Int32)), .val (.int (((0 : Int32) + (1 : Int32)) + (1 : Int32))), .val (.ref wM)] [])) (fun _ k => XS.icmpYes X67.here hx rfl (pc0 := 15) (pc' := 42) rfl (hb hby d1_15) rfl (flt (by decide)).2.1 (by decide) (by decide) k) ?_
    refine own_lift (T' := T67) (f' := (mkF m 43 #[.val (.int kk), .val .null, .val (.ref bv), .val (.int (2 : Int32)), .val (.int (((0 : Int32) + (1 : Int32)) + (1 : Int32))), .val (.ref wM)] [.null])) (fun _ k => XS.aloadN X67.here hx rfl (hb hby d1_42) rfl rfl k) ?_
    obtain ⟨_, _, ⟨To, Lo, ko, no⟩, -, Xo, ⟨Lco, hQo, lo, yo, zo⟩, sto⟩ := Jvm.LawKit.callS X67 hx (y := (⟨"java/util/Optional", "ofNullable", "(Ljava/lang/Object;)Ljava/util/Optional;"⟩ : MethodName)) hown (mvT hZ (hw _ (List.mem_of_getElem? (i := 23) rfl))) (mvT hZ (hw _ (List.mem_of_getElem? (i := 24) rfl))) (mvT hZ (hw _ (List.mem_of_getElem? (i := 25) rfl))) (mvT hZ (hw _ (List.mem_of_getElem? (i := 26) rfl))) (by decide) (backOf (W := 0) (rm3 l Z a0 hw [] .null rfl wE hv1 n0 (Nat.le_trans Z0 xv.1) (S_EMPTY.ext xv) (E_E.ext xv) (F_E.ext xv)) hZ (hw _ (List.mem_of_getElem? (i := 26) rfl)) (hw _ (List.mem_of_getElem? (i := 25) rfl)) (by decide) (by decide)) (g := (mkF m 43 #[.val (.int kk), .val .null, .val (.ref bv), .val (.int (2 : Int32)), .val (.int (((0 : Int32) + (1 : Int32)) + (1 : Int32))), .val (.ref wM)] [.null])) rfl (by rw [hml]; rfl) (argsL := [.null]) (rest := []) (lenOf pd_3 rfl) rfl (by show 2 * 0 + _ ≤ _; exact Nat.le_of_eq rfl) (hb hby d1_43) (fun _ _ => ⟨rfl, e67, Nat.le_of_ble_eq_true rfl, Nat.le_of_ble_eq_true rfl⟩)
    dsimp only [Pt.U, Pt.locs, Pt.cells, Pt.slots] at Xo lo yo zo sto hQo
    subst lo yo zo
    obtain ⟨bo, rfl, No, xo, Eo, Fo⟩ := hQo
    refine own_lift (T' := To) (f' := (mkF m 46 #[.val (.int kk), .val .null, .val (.ref bv), .val (.int (2 : Int32)), .val (.int (((0 : Int32) + (1 : Int32)) + (1 : Int32))), .val (.ref wM)] [(.ref bo)])) (sto) ?_
    exact own_retG Xo hx hlk Bd.returns rfl (Or.inr (Or.inr (Or.inr (Or.inr ⟨rfl, rfl, rfl⟩)))) (hb hby d1_46) ⟨bo, rfl, Fr.app (Fr.app N0 Nv) No, own_ext_trans xv xo, Eo, Fo⟩ (by decide) (by decide)
theorem pn_0 : plainName "com/example/hashkeep/hashkeep/store/DigestAlgorithmOfHexDigitsPinLaw" = true := by first | (simp [plainName, overriddenIn]; done) | decide +kernel
theorem pd_0 : parseMethodDescriptor "(II)Z" = some ⟨[.int, .int], some .boolean⟩ := by decide +kernel
theorem ef_0 (m : MethodId) (x0 : Int32) (x1 : Int32)  : entryFrame m #[(.int x0), (.int x1)] maxLocals = mkF m 0 #[.val (.int x0), .val (.int x1), .unset, .unset, .unset, .unset, .unset] [] := by first | (simp [entryFrame, mkF, argsToLocals, Value.category, maxLocals]; done) | rfl
set_option maxRecDepth 65536 in
set_option maxHeartbeats 40000000 in
theorem rm0 (l : Launch) (Z : State) (a0 : Array Value) (hw : ∀ d ∈ tables_1, d.before a0 Z = true) (ws : List Jvm.Cond) (p1 p2 : Int32) (wV wS wM wE : Addr) (cl : Cell) (h0 : Heap) (n0 : Nat) (Z0 : n0 ≤ h0.size) (S_SHA_256 : Sta Z h0 "com/example/hashkeep/hashkeep/store/DigestAlgorithm" "SHA_256" "Lcom/example/hashkeep/hashkeep/store/DigestAlgorithm;" (.ref wS)) (S_MD5 : Sta Z h0 "com/example/hashkeep/hashkeep/store/DigestAlgorithm" "MD5" "Lcom/example/hashkeep/hashkeep/store/DigestAlgorithm;" (.ref wM)) (E_S : Exa Z h0 wS "com/example/hashkeep/hashkeep/store/DigestAlgorithm") (E_M : Exa Z h0 wM "com/example/hashkeep/hashkeep/store/DigestAlgorithm") (S_VALUES : Sta Z h0 "com/example/hashkeep/hashkeep/store/DigestAlgorithm" "$VALUES" "[Lcom/example/hashkeep/hashkeep/store/DigestAlgorithm;" (.ref wV)) (E_V : Exa Z h0 wV "[Lcom/example/hashkeep/hashkeep/store/DigestAlgorithm;") (A_V : Arr Z h0 wV cl (.object "com/example/hashkeep/hashkeep/store/DigestAlgorithm")) (FC : FitC Z cl) (hsz : cl.slots.size = 2) (el0 : cl.slots[0]? = some (.ref wS)) (el1 : cl.slots[1]? = some (.ref wM)) (F_S : Fld Z h0 wS "com/example/hashkeep/hashkeep/store/DigestAlgorithm" "hexDigits" "I" (.int (64 : Int32))) (F_M : Fld Z h0 wM "com/example/hashkeep/hashkeep/store/DigestAlgorithm" "hexDigits" "I" (.int (32 : Int32))) (S_EMPTY : Sta Z h0 "java/util/Optional" "EMPTY" "Ljava/util/Optional;" (.ref wE)) (E_E : Exa Z h0 wE "java/util/Optional") (F_E : Fld Z h0 wE "java/util/Optional" "value" "Ljava/lang/Object;" .null) :
    MetFree l x (head1 (Jvm.Cond.code x code maxLocals ret :: ws) room_1) (fun a U => a = #[(.int p1), (.int p2)] ∧ Z.Warmed39 U.vm ∧ U.heap = h0) (fun _ _ _ _ _ => True) (fun _ U o U' => ∃ v L, o = .returned v ∧ own_Ql n0 v U'.heap L ∧ FrameEnd U o U' L room_1.cells room_1.slots) := by
  refine MetFree.of_bodySF (plainFor_of_name pn_0) hisR ?_
  intro p e s m args below meth c s₁ Bd hml0 hP hK
  obtain ⟨rfl, hZ, hh⟩ := hP
  have hx := Bd.exec
  have hby := Bd.bytes
  have hml : c.maxLocals = 7 := hml0
  have hown : s.vm.findClass "com/example/hashkeep/hashkeep/store/DigestAlgorithmOfHexDigitsPinLaw" = some m.cls := findClass_of_methodNamed Bd.named
  have hlk : meth.locks = false := BodyLoose.notSynchronized Bd
  have X0 : Stand p l e room_1 s m #[(.int p1), (.int p2)] below meth c s₁ [] 0 0 := Stand.of_body Bd
  have e0 : s₁.heap = h0 := by rw [← hh, Bd.state]; rfl
  have N0 := Fr.nil n0
  refine own_start (Q := own_EndG (own_Ql n0) s room_1) (ef_0 m p1 p2) ?_
  have J55 : ∀ (T : State) (cc : Int32), Stand p l e room_1 s m #[(.int p1), (.int p2)] below meth c T [] 0 0 → T.heap = h0 → own_Comes p e below (own_EndG (own_Ql n0) s room_1) T (mkF m 55 #[.val (.int p1), .val (.int p2), .val (.int (p2 &&& (3 : Int32))), .val (.int cc), .unset, .unset, .unset] []) := by
    intro T cc X E
    by_cases c64 : cc = 64
    · refine own_lift (T' := T) (f' := (mkF m 56 #[.val (.int p1), .val (.int p2), .val (.int (p2 &&& (3 : Int32))), .val (.int cc), .unset, .unset, .unset] [(.int cc)])) (fun _ k => XS.iloadN X.here hx rfl (hb hby at_55) rfl k) ?_
      obtain ⟨_, _, ⟨Ta, La, ka, na⟩, -, Xa, ⟨Lca, hQa, la, ya, za⟩, sta⟩ := Jvm.LawKit.callS X hx (y := (⟨"com/example/hashkeep/hashkeep/store/DigestAlgorithm", "ofHexDigits", "(I)Ljava/util/Optional;"⟩ : MethodName)) hown (mvT hZ (hw _ (List.mem_of_getElem? (i := 0) rfl))) (mvT hZ (hw _ (List.mem_of_getElem? (i := 1) rfl))) (mvT hZ (hw _ (List.mem_of_getElem? (i := 2) rfl))) (mvT hZ (hw _ (List.mem_of_getElem? (i := 3) rfl))) (by decide) (backOf (W := 0) (rm1 l Z a0 hw [] cc wV wS wM wE cl (.ref wS) h0 n0 Z0 S_VALUES E_V A_V FC hsz el0 el1 F_S F_M S_EMPTY E_E F_E (by simp [c64])) hZ (hw _ (List.mem_of_getElem? (i := 3) rfl)) (hw _ (List.mem_of_getElem? (i := 2) rfl)) (by decide) (by decide)) (g := (mkF m 56 #[.val (.int p1), .val (.int p2), .val (.int (p2 &&& (3 : Int32))), .val (.int cc), .unset, .unset, .unset] [(.int cc)])) rfl (by rw [hml]; rfl) (argsL := [(.int cc)]) (rest := []) (lenOf pd_1 rfl) rfl (by show 2 * 0 + _ ≤ _; exact Nat.le_of_eq rfl) (hb hby at_56) (fun _ _ => ⟨rfl, E, Nat.le_of_ble_eq_true rfl, Nat.le_of_ble_eq_true rfl⟩)
      dsimp only [Pt.U, Pt.locs, Pt.cells, Pt.slots] at Xa la ya za sta hQa
      subst la ya za
      obtain ⟨ba, rfl, Na, xa, Ea, Fa⟩ := hQa
      obtain ⟨ha1, ea⟩ : ∃ h, Ta.heap = h := ⟨_, rfl⟩
      rw [ea] at xa Ea Fa
      refine own_lift (T' := Ta) (f' := (mkF m 59 #[.val (.int p1), .val (.int p2), .val (.int (p2 &&& (3 : Int32))), .val (.int cc), .unset, .unset, .unset] [(.ref ba)])) (sta) ?_
      refine own_lift (T' := Ta) (f' := (mkF m 61 #[.val (.int p1), .val (.int p2), .val (.int (p2 &&& (3 : Int32))), .val (.int cc), .val (.ref ba), .unset, .unset] [])) (fun _ k => XS.astore Xa.here hx rfl (hb hby at_59) rfl rfl (l' := #[.val (.int p1), .val (.int p2), .val (.int (p2 &&& (3 : Int32))), .val (.int cc), .val (.ref ba), .unset, .unset]) rfl k) ?_
      refine own_lift (T' := Ta) (f' := (mkF m 63 #[.val (.int p1), .val (.int p2), .val (.int (p2 &&& (3 : Int32))), .val (.int cc), .val (.ref ba), .unset, .unset] [(.ref ba)])) (fun _ k => XS.aload Xa.here hx rfl (hb hby at_61) rfl rfl k) ?_
      refine own_lift (T' := Ta) (f' := (mkF m 64 #[.val (.int p1), .val (.int p2), .val (.int (p2 &&& (3 : Int32))), .val (.int cc), .val (.ref ba), .unset, .unset] [.null, (.ref ba)])) (fun _ k => XS.aconstNull Xa.here hx rfl (hb hby at_63) k) ?_
      obtain ⟨cqb, kqb, qba, qbb, qbc⟩ := isOf hZ ea Ea
      obtain ⟨_, _, ⟨Tb, Lb, kb, nb⟩, -, Xb, ⟨Lcb, hQb, lb, yb, zb⟩, stb⟩ := Xa.virtualBack hx (y := (⟨"java/util/Optional", "orElse", "(Ljava/lang/Object;)Ljava/lang/Object;"⟩ : MethodName)) (z := (⟨"java/util/Optional", "orElse", "(Ljava/lang/Object;)Ljava/lang/Object;"⟩ : MethodName)) hown (mvT hZ (hw _ (List.mem_of_getElem? (i := 28) rfl))) (mvT hZ (hw _ (List.mem_of_getElem? (i := 29) rfl))) (notFace_of_selects (args := #[]) (mvT hZ (hw _ (List.mem_of_getElem? (i := 31) rfl)))) (mvT hZ (hw _ (List.mem_of_getElem? (i := 31) rfl))) (mvT hZ (hw _ (List.mem_of_getElem? (i := 30) rfl))) (by decide) (backOf (W := 0) (rm4 l Z a0 hw [] ba (.ref wS) rfl ha1 Fa) hZ (hw _ (List.mem_of_getElem? (i := 32) rfl)) (hw _ (List.mem_of_getElem? (i := 25) rfl)) (by decide) (by decide)) qba qbc (g := (mkF m 64 #[.val (.int p1), .val (.int p2), .val (.int (p2 &&& (3 : Int32))), .val (.int cc), .val (.ref ba), .unset, .unset] [.null, (.ref ba)])) rfl (by rw [hml]; rfl) (Steps.refl _) (argsL := [.null]) (rest := []) (lenOf pd_4 rfl) rfl (by show 2 * 0 + _ ≤ _; exact Nat.le_of_eq rfl) (hb hby at_64) (fun _ _ => ⟨rfl, ea, Nat.le_of_ble_eq_true rfl, Nat.le_of_ble_eq_true rfl⟩)
      dsimp only [Pt.U, Pt.locs, Pt.cells, Pt.slots] at Xb lb yb zb stb hQb
      subst lb yb zb
      obtain ⟨rfl, rfl, eb⟩ := hQb
      refine own_lift (T' := Tb) (f' := (mkF m 67 #[.val (.int p1), .val (.int p2), .val (.int (p2 &&& (3 : Int32))), .val (.int cc), .val (.ref ba), .unset, .unset] [(.ref wS)])) (fun _ k => stb.trans k) ?_
      obtain ⟨Tc, Xc, ec, stc⟩ := castY Xb hx hZ hown (hw _ (List.mem_of_getElem? (i := 44) rfl)) eb (Ins.self (E_S.ext xa)) (g := (mkF m 67 #[.val (.int p1), .val (.int p2), .val (.int (p2 &&& (3 : Int32))), .val (.int cc), .val (.ref ba), .unset, .unset] [(.ref wS)])) rfl rfl (hb hby at_67)
      refine own_lift (T' := Tc) (f' := (mkF m 70 #[.val (.int p1), .val (.int p2), .val (.int (p2 &&& (3 : Int32))), .val (.int cc), .val (.ref ba), .unset, .unset] [(.ref wS)])) (stc) ?_
      refine own_lift (T' := Tc) (f' := (mkF m 72 #[.val (.int p1), .val (.int p2), .val (.int (p2 &&& (3 : Int32))), .val (.int cc), .val (.ref ba), .val (.ref wS), .unset] [])) (fun _ k => XS.astore Xc.here hx rfl (hb hby at_70) rfl rfl (l' := #[.val (.int p1), .val (.int p2), .val (.int (p2 &&& (3 : Int32))), .val (.int cc), .val (.ref ba), .val (.ref wS), .unset]) rfl k) ?_
      refine own_lift (T' := Tc) (f' := (mkF m 73 #[.val (.int p1), .val (.int p2), .val (.int (p2 &&& (3 : Int32))), .val (.int cc), .val (.ref ba), .val (.ref wS), .unset] [(.int cc)])) (fun _ k => XS.iloadN Xc.here hx rfl (hb hby at_72) rfl k) ?_
      refine own_lift (T' := Tc) (f' := (mkF m 75 #[.val (.int p1), .val (.int p2), .val (.int (p2 &&& (3 : Int32))), .val (.int cc), .val (.ref ba), .val (.ref wS), .unset] [(.int (64 : Int32)), (.int cc)])) (fun _ k => XS.bipush Xc.here hx rfl (hb hby at_73) k) ?_
      refine own_lift (T' := Tc) (f' := (mkF m 78 #[.val (.int p1), .val (.int p2), .val (.int (p2 &&& (3 : Int32))), .val (.int cc), .val (.ref ba), .val (.ref wS), .unset] [])) (fun _ k => XS.icmpNo Xc.here hx rfl (hb hby at_75) rfl (teq c64).2 k) ?_
      obtain ⟨T68, X68, e68, st68⟩ := getS2 Xc hx hZ hown (host := "") (Or.inl (hw _ (List.mem_of_getElem? (i := 47) rfl))) Via.refl ec (S_SHA_256.ext xa) (g := (mkF m 78 #[.val (.int p1), .val (.int p2), .val (.int (p2 &&& (3 : Int32))), .val (.int cc), .val (.ref ba), .val (.ref wS), .unset] [])) rfl (hb hby at_78)
      refine own_lift (T' := T68) (f' := (mkF m 81 #[.val (.int p1), .val (.int p2), .val (.int (p2 &&& (3 : Int32))), .val (.int cc), .val (.ref ba), .val (.ref wS), .unset] [(.ref wS)])) (st68) ?_
      refine own_lift (T' := T68) (f' := (mkF m 83 #[.val (.int p1), .val (.int p2), .val (.int (p2 &&& (3 : Int32))), .val (.int cc), .val (.ref ba), .val (.ref wS), .val (.ref wS)] [])) (fun _ k => XS.astore X68.here hx rfl (hb hby at_81) rfl rfl (l' := #[.val (.int p1), .val (.int p2), .val (.int (p2 &&& (3 : Int32))), .val (.int cc), .val (.ref ba), .val (.ref wS), .val (.ref wS)]) rfl k) ?_
      refine own_lift (T' := T68) (f' := (mkF m 103 #[.val (.int p1), .val (.int p2), .val (.int (p2 &&& (3 : Int32))), .val (.int cc), .val (.ref ba), .val (.ref wS), .val (.ref wS)] [])) (fun _ k => XS.goto X68.here hx rfl (pc0 := 83) (pc' := 103) rfl (hb hby at_83) (by decide) (by decide) k) ?_
      refine own_lift (T' := T68) (f' := (mkF m 105 #[.val (.int p1), .val (.int p2), .val (.int (p2 &&& (3 : Int32))), .val (.int cc), .val (.ref ba), .val (.ref wS), .val (.ref wS)] [(.ref wS)])) (fun _ k => XS.aload X68.here hx rfl (hb hby at_103) rfl rfl k) ?_
      refine own_lift (T' := T68) (f' := (mkF m 107 #[.val (.int p1), .val (.int p2), .val (.int (p2 &&& (3 : Int32))), .val (.int cc), .val (.ref ba), .val (.ref wS), .val (.ref wS)] [(.ref wS), (.ref wS)])) (fun _ k => XS.aload X68.here hx rfl (hb hby at_105) rfl rfl k) ?_
      refine own_lift (T' := T68) (f' := (mkF m 110 #[.val (.int p1), .val (.int p2), .val (.int (p2 &&& (3 : Int32))), .val (.int cc), .val (.ref ba), .val (.ref wS), .val (.ref wS)] [])) (fun _ k => Jvm.RoadKit.acmp (g := (mkF m 107 #[.val (.int p1), .val (.int p2), .val (.int (p2 &&& (3 : Int32))), .val (.int cc), .val (.ref ba), .val (.ref wS), .val (.ref wS)] [(.ref wS), (.ref wS)])) X68 hx rfl rfl rfl (pc0 := 107) (pc' := 110) (same := true) rfl (hb hby at_107) rfl (decide_eq_true (congrArg Value.ref rfl)) (by decide) (by decide) k) ?_
      refine own_lift (T' := T68) (f' := (mkF m 111 #[.val (.int p1), .val (.int p2), .val (.int (p2 &&& (3 : Int32))), .val (.int cc), .val (.ref ba), .val (.ref wS), .val (.ref wS)] [(.int (1 : Int32))])) (fun _ k => XS.iconst X68.here hx rfl (hb hby at_110) k) ?_
      refine own_lift (T' := T68) (f' := (mkF m 115 #[.val (.int p1), .val (.int p2), .val (.int (p2 &&& (3 : Int32))), .val (.int cc), .val (.ref ba), .val (.ref wS), .val (.ref wS)] [(.int (1 : Int32))])) (fun _ k => XS.goto X68.here hx rfl (pc0 := 111) (pc' := 115) rfl (hb hby at_111) (by decide) (by decide) k) ?_
      exact own_retG X68 hx hlk Bd.returns rfl (Or.inl ⟨rfl, by simp, _, rfl⟩) (hb hby at_115) ⟨rfl, Fr.app (Fr.app N0 Na) (Fr.nil n0)⟩ (by decide) (by decide)
    by_cases c32 : cc = 32
    · refine own_lift (T' := T) (f' := (mkF m 56 #[.val (.int p1), .val (.int p2), .val (.int (p2 &&& (3 : Int32))), .val (.int cc), .unset, .unset, .unset] [(.int cc)])) (fun _ k => XS.iloadN X.here hx rfl (hb hby at_55) rfl k) ?_
      obtain ⟨_, _, ⟨Ta, La, ka, na⟩, -, Xa, ⟨Lca, hQa, la, ya, za⟩, sta⟩ := Jvm.LawKit.callS X hx (y := (⟨"com/example/hashkeep/hashkeep/store/DigestAlgorithm", "ofHexDigits", "(I)Ljava/util/Optional;"⟩ : MethodName)) hown (mvT hZ (hw _ (List.mem_of_getElem? (i := 0) rfl))) (mvT hZ (hw _ (List.mem_of_getElem? (i := 1) rfl))) (mvT hZ (hw _ (List.mem_of_getElem? (i := 2) rfl))) (mvT hZ (hw _ (List.mem_of_getElem? (i := 3) rfl))) (by decide) (backOf (W := 0) (rm1 l Z a0 hw [] cc wV wS wM wE cl (.ref wM) h0 n0 Z0 S_VALUES E_V A_V FC hsz el0 el1 F_S F_M S_EMPTY E_E F_E (by simp [c32])) hZ (hw _ (List.mem_of_getElem? (i := 3) rfl)) (hw _ (List.mem_of_getElem? (i := 2) rfl)) (by decide) (by decide)) (g := (mkF m 56 #[.val (.int p1), .val (.int p2), .val (.int (p2 &&& (3 : Int32))), .val (.int cc), .unset, .unset, .unset] [(.int cc)])) rfl (by rw [hml]; rfl) (argsL := [(.int cc)]) (rest := []) (lenOf pd_1 rfl) rfl (by show 2 * 0 + _ ≤ _; exact Nat.le_of_eq rfl) (hb hby at_56) (fun _ _ => ⟨rfl, E, Nat.le_of_ble_eq_true rfl, Nat.le_of_ble_eq_true rfl⟩)
      dsimp only [Pt.U, Pt.locs, Pt.cells, Pt.slots] at Xa la ya za sta hQa
      subst la ya za
      obtain ⟨ba, rfl, Na, xa, Ea, Fa⟩ := hQa
      obtain ⟨ha1, ea⟩ : ∃ h, Ta.heap = h := ⟨_, rfl⟩
      rw [ea] at xa Ea Fa
      refine own_lift (T' := Ta) (f' := (mkF m 59 #[.val (.int p1), .val (.int p2), .val (.int (p2 &&& (3 : Int32))), .val (.int cc), .unset, .unset, .unset] [(.ref ba)])) (sta) ?_
      refine own_lift (T' := Ta) (f' := (mkF m 61 #[.val (.int p1), .val (.int p2), .val (.int (p2 &&& (3 : Int32))), .val (.int cc), .val (.ref ba), .unset, .unset] [])) (fun _ k => XS.astore Xa.here hx rfl (hb hby at_59) rfl rfl (l' := #[.val (.int p1), .val (.int p2), .val (.int (p2 &&& (3 : Int32))), .val (.int cc), .val (.ref ba), .unset, .unset]) rfl k) ?_
      refine own_lift (T' := Ta) (f' := (mkF m 63 #[.val (.int p1), .val (.int p2), .val (.int (p2 &&& (3 : Int32))), .val (.int cc), .val (.ref ba), .unset, .unset] [(.ref ba)])) (fun _ k => XS.aload Xa.here hx rfl (hb hby at_61) rfl rfl k) ?_
      refine own_lift (T' := Ta) (f' := (mkF m 64 #[.val (.int p1), .val (.int p2), .val (.int (p2 &&& (3 : Int32))), .val (.int cc), .val (.ref ba), .unset, .unset] [.null, (.ref ba)])) (fun _ k => XS.aconstNull Xa.here hx rfl (hb hby at_63) k) ?_
      obtain ⟨cqb, kqb, qba, qbb, qbc⟩ := isOf hZ ea Ea
      obtain ⟨_, _, ⟨Tb, Lb, kb, nb⟩, -, Xb, ⟨Lcb, hQb, lb, yb, zb⟩, stb⟩ := Xa.virtualBack hx (y := (⟨"java/util/Optional", "orElse", "(Ljava/lang/Object;)Ljava/lang/Object;"⟩ : MethodName)) (z := (⟨"java/util/Optional", "orElse", "(Ljava/lang/Object;)Ljava/lang/Object;"⟩ : MethodName)) hown (mvT hZ (hw _ (List.mem_of_getElem? (i := 28) rfl))) (mvT hZ (hw _ (List.mem_of_getElem? (i := 29) rfl))) (notFace_of_selects (args := #[]) (mvT hZ (hw _ (List.mem_of_getElem? (i := 31) rfl)))) (mvT hZ (hw _ (List.mem_of_getElem? (i := 31) rfl))) (mvT hZ (hw _ (List.mem_of_getElem? (i := 30) rfl))) (by decide) (backOf (W := 0) (rm4 l Z a0 hw [] ba (.ref wM) rfl ha1 Fa) hZ (hw _ (List.mem_of_getElem? (i := 32) rfl)) (hw _ (List.mem_of_getElem? (i := 25) rfl)) (by decide) (by decide)) qba qbc (g := (mkF m 64 #[.val (.int p1), .val (.int p2), .val (.int (p2 &&& (3 : Int32))), .val (.int cc), .val (.ref ba), .unset, .unset] [.null, (.ref ba)])) rfl (by rw [hml]; rfl) (Steps.refl _) (argsL := [.null]) (rest := []) (lenOf pd_4 rfl) rfl (by show 2 * 0 + _ ≤ _; exact Nat.le_of_eq rfl) (hb hby at_64) (fun _ _ => ⟨rfl, ea, Nat.le_of_ble_eq_true rfl, Nat.le_of_ble_eq_true rfl⟩)
      dsimp only [Pt.U, Pt.locs, Pt.cells, Pt.slots] at Xb lb yb zb stb hQb
      subst lb yb zb
      obtain ⟨rfl, rfl, eb⟩ := hQb
      refine own_lift (T' := Tb) (f' := (mkF m 67 #[.val (.int p1), .val (.int p2), .val (.int (p2 &&& (3 : Int32))), .val (.int cc), .val (.ref ba), .unset, .unset] [(.ref wM)])) (fun _ k => stb.trans k) ?_
      obtain ⟨Tc, Xc, ec, stc⟩ := castY Xb hx hZ hown (hw _ (List.mem_of_getElem? (i := 44) rfl)) eb (Ins.self (E_M.ext xa)) (g := (mkF m 67 #[.val (.int p1), .val (.int p2), .val (.int (p2 &&& (3 : Int32))), .val (.int cc), .val (.ref ba), .unset, .unset] [(.ref wM)])) rfl rfl (hb hby at_67)
      refine own_lift (T' := Tc) (f' := (mkF m 70 #[.val (.int p1), .val (.int p2), .val (.int (p2 &&& (3 : Int32))), .val (.int cc), .val (.ref ba), .unset, .unset] [(.ref wM)])) (stc) ?_
      refine own_lift (T' := Tc) (f' := (mkF m 72 #[.val (.int p1), .val (.int p2), .val (.int (p2 &&& (3 : Int32))), .val (.int cc), .val (.ref ba), .val (.ref wM), .unset] [])) (fun _ k => XS.astore Xc.here hx rfl (hb hby at_70) rfl rfl (l' := #[.val (.int p1), .val (.int p2), .val (.int (p2 &&& (3 : Int32))), .val (.int cc), .val (.ref ba), .val (.ref wM), .unset]) rfl k) ?_
      refine own_lift (T' := Tc) (f' := (mkF m 73 #[.val (.int p1), .val (.int p2), .val (.int (p2 &&& (3 : Int32))), .val (.int cc), .val (.ref ba), .val (.ref wM), .unset] [(.int cc)])) (fun _ k => XS.iloadN Xc.here hx rfl (hb hby at_72) rfl k) ?_
      refine own_lift (T' := Tc) (f' := (mkF m 75 #[.val (.int p1), .val (.int p2), .val (.int (p2 &&& (3 : Int32))), .val (.int cc), .val (.ref ba), .val (.ref wM), .unset] [(.int (64 : Int32)), (.int cc)])) (fun _ k => XS.bipush Xc.here hx rfl (hb hby at_73) k) ?_
      refine own_lift (T' := Tc) (f' := (mkF m 86 #[.val (.int p1), .val (.int p2), .val (.int (p2 &&& (3 : Int32))), .val (.int cc), .val (.ref ba), .val (.ref wM), .unset] [])) (fun _ k => XS.icmpYes Xc.here hx rfl (pc0 := 75) (pc' := 86) rfl (hb hby at_75) rfl (feq c64).2 (by decide) (by decide) k) ?_
      refine own_lift (T' := Tc) (f' := (mkF m 87 #[.val (.int p1), .val (.int p2), .val (.int (p2 &&& (3 : Int32))), .val (.int cc), .val (.ref ba), .val (.ref wM), .unset] [(.int cc)])) (fun _ k => XS.iloadN Xc.here hx rfl (hb hby at_86) rfl k) ?_
      refine own_lift (T' := Tc) (f' := (mkF m 89 #[.val (.int p1), .val (.int p2), .val (.int (p2 &&& (3 : Int32))), .val (.int cc), .val (.ref ba), .val (.ref wM), .unset] [(.int (32 : Int32)), (.int cc)])) (fun _ k => XS.bipush Xc.here hx rfl (hb hby at_87) k) ?_
      refine own_lift (T' := Tc) (f' := (mkF m 92 #[.val (.int p1), .val (.int p2), .val (.int (p2 &&& (3 : Int32))), .val (.int cc), .val (.ref ba), .val (.ref wM), .unset] [])) (fun _ k => XS.icmpNo Xc.here hx rfl (hb hby at_89) rfl (teq c32).2 k) ?_
      obtain ⟨T69, X69, e69, st69⟩ := getS2 Xc hx hZ hown (host := "") (Or.inl (hw _ (List.mem_of_getElem? (i := 46) rfl))) Via.refl ec (S_MD5.ext xa) (g := (mkF m 92 #[.val (.int p1), .val (.int p2), .val (.int (p2 &&& (3 : Int32))), .val (.int cc), .val (.ref ba), .val (.ref wM), .unset] [])) rfl (hb hby at_92)
      refine own_lift (T' := T69) (f' := (mkF m 95 #[.val (.int p1), .val (.int p2), .val (.int (p2 &&& (3 : Int32))), .val (.int cc), .val (.ref ba), .val (.ref wM), .unset] [(.ref wM)])) (st69) ?_
      refine own_lift (T' := T69) (f' := (mkF m 97 #[.val (.int p1), .val (.int p2), .val (.int (p2 &&& (3 : Int32))), .val (.int cc), .val (.ref ba), .val (.ref wM), .val (.ref wM)] [])) (fun _ k => XS.astore X69.here hx rfl (hb hby at_95) rfl rfl (l' := #[.val (.int p1), .val (.int p2), .val (.int (p2 &&& (3 : Int32))), .val (.int cc), .val (.ref ba), .val (.ref wM), .val (.ref wM)]) rfl k) ?_
      refine own_lift (T' := T69) (f' := (mkF m 103 #[.val (.int p1), .val (.int p2), .val (.int (p2 &&& (3 : Int32))), .val (.int cc), .val (.ref ba), .val (.ref wM), .val (.ref wM)] [])) (fun _ k => XS.goto X69.here hx rfl (pc0 := 97) (pc' := 103) rfl (hb hby at_97) (by decide) (by decide) k) ?_
      refine own_lift (T' := T69) (f' := (mkF m 105 #[.val (.int p1), .val (.int p2), .val (.int (p2 &&& (3 : Int32))), .val (.int cc), .val (.ref ba), .val (.ref wM), .val (.ref wM)] [(.ref wM)])) (fun _ k => XS.aload X69.here hx rfl (hb hby at_103) rfl rfl k) ?_
      refine own_lift (T' := T69) (f' := (mkF m 107 #[.val (.int p1), .val (.int p2), .val (.int (p2 &&& (3 : Int32))), .val (.int cc), .val (.ref ba), .val (.ref wM), .val (.ref wM)] [(.ref wM), (.ref wM)])) (fun _ k => XS.aload X69.here hx rfl (hb hby at_105) rfl rfl k) ?_
      refine own_lift (T' := T69) (f' := (mkF m 110 #[.val (.int p1), .val (.int p2), .val (.int (p2 &&& (3 : Int32))), .val (.int cc), .val (.ref ba), .val (.ref wM), .val (.ref wM)] [])) (fun _ k => Jvm.RoadKit.acmp (g := (mkF m 107 #[.val (.int p1), .val (.int p2), .val (.int (p2 &&& (3 : Int32))), .val (.int cc), .val (.ref ba), .val (.ref wM), .val (.ref wM)] [(.ref wM), (.ref wM)])) X69 hx rfl rfl rfl (pc0 := 107) (pc' := 110) (same := true) rfl (hb hby at_107) rfl (decide_eq_true (congrArg Value.ref rfl)) (by decide) (by decide) k) ?_
      refine own_lift (T' := T69) (f' := (mkF m 111 #[.val (.int p1), .val (.int p2), .val (.int (p2 &&& (3 : Int32))), .val (.int cc), .val (.ref ba), .val (.ref wM), .val (.ref wM)] [(.int (1 : Int32))])) (fun _ k => XS.iconst X69.here hx rfl (hb hby at_110) k) ?_
      refine own_lift (T' := T69) (f' := (mkF m 115 #[.val (.int p1), .val (.int p2), .val (.int (p2 &&& (3 : Int32))), .val (.int cc), .val (.ref ba), .val (.ref wM), .val (.ref wM)] [(.int (1 : Int32))])) (fun _ k => XS.goto X69.here hx rfl (pc0 := 111) (pc' := 115) rfl (hb hby at_111) (by decide) (by decide) k) ?_
      exact own_retG X69 hx hlk Bd.returns rfl (Or.inl ⟨rfl, by simp, _, rfl⟩) (hb hby at_115) ⟨rfl, Fr.app (Fr.app N0 Na) (Fr.nil n0)⟩ (by decide) (by decide)
    · refine own_lift (T' := T) (f' := (mkF m 56 #[.val (.int p1), .val (.int p2), .val (.int (p2 &&& (3 : Int32))), .val (.int cc), .unset, .unset, .unset] [(.int cc)])) (fun _ k => XS.iloadN X.here hx rfl (hb hby at_55) rfl k) ?_
      obtain ⟨_, _, ⟨Ta, La, ka, na⟩, -, Xa, ⟨Lca, hQa, la, ya, za⟩, sta⟩ := Jvm.LawKit.callS X hx (y := (⟨"com/example/hashkeep/hashkeep/store/DigestAlgorithm", "ofHexDigits", "(I)Ljava/util/Optional;"⟩ : MethodName)) hown (mvT hZ (hw _ (List.mem_of_getElem? (i := 0) rfl))) (mvT hZ (hw _ (List.mem_of_getElem? (i := 1) rfl))) (mvT hZ (hw _ (List.mem_of_getElem? (i := 2) rfl))) (mvT hZ (hw _ (List.mem_of_getElem? (i := 3) rfl))) (by decide) (backOf (W := 0) (rm1 l Z a0 hw [] cc wV wS wM wE cl .null h0 n0 Z0 S_VALUES E_V A_V FC hsz el0 el1 F_S F_M S_EMPTY E_E F_E (by simp [c64, c32])) hZ (hw _ (List.mem_of_getElem? (i := 3) rfl)) (hw _ (List.mem_of_getElem? (i := 2) rfl)) (by decide) (by decide)) (g := (mkF m 56 #[.val (.int p1), .val (.int p2), .val (.int (p2 &&& (3 : Int32))), .val (.int cc), .unset, .unset, .unset] [(.int cc)])) rfl (by rw [hml]; rfl) (argsL := [(.int cc)]) (rest := []) (lenOf pd_1 rfl) rfl (by show 2 * 0 + _ ≤ _; exact Nat.le_of_eq rfl) (hb hby at_56) (fun _ _ => ⟨rfl, E, Nat.le_of_ble_eq_true rfl, Nat.le_of_ble_eq_true rfl⟩)
      dsimp only [Pt.U, Pt.locs, Pt.cells, Pt.slots] at Xa la ya za sta hQa
      subst la ya za
      obtain ⟨ba, rfl, Na, xa, Ea, Fa⟩ := hQa
      obtain ⟨ha1, ea⟩ : ∃ h, Ta.heap = h := ⟨_, rfl⟩
      rw [ea] at xa Ea Fa
      refine own_lift (T' := Ta) (f' := (mkF m 59 #[.val (.int p1), .val (.int p2), .val (.int (p2 &&& (3 : Int32))), .val (.int cc), .unset, .unset, .unset] [(.ref ba)])) (sta) ?_
      refine own_lift (T' := Ta) (f' := (mkF m 61 #[.val (.int p1), .val (.int p2), .val (.int (p2 &&& (3 : Int32))), .val (.int cc), .val (.ref ba), .unset, .unset] [])) (fun _ k => XS.astore Xa.here hx rfl (hb hby at_59) rfl rfl (l' := #[.val (.int p1), .val (.int p2), .val (.int (p2 &&& (3 : Int32))), .val (.int cc), .val (.ref ba), .unset, .unset]) rfl k) ?_
      refine own_lift (T' := Ta) (f' := (mkF m 63 #[.val (.int p1), .val (.int p2), .val (.int (p2 &&& (3 : Int32))), .val (.int cc), .val (.ref ba), .unset, .unset] [(.ref ba)])) (fun _ k => XS.aload Xa.here hx rfl (hb hby at_61) rfl rfl k) ?_
      refine own_lift (T' := Ta) (f' := (mkF m 64 #[.val (.int p1), .val (.int p2), .val (.int (p2 &&& (3 : Int32))), .val (.int cc), .val (.ref ba), .unset, .unset] [.null, (.ref ba)])) (fun _ k => XS.aconstNull Xa.here hx rfl (hb hby at_63) k) ?_
      obtain ⟨cqb, kqb, qba, qbb, qbc⟩ := isOf hZ ea Ea
      obtain ⟨_, _, ⟨Tb, Lb, kb, nb⟩, -, Xb, ⟨Lcb, hQb, lb, yb, zb⟩, stb⟩ := Xa.virtualBack hx (y := (⟨"java/util/Optional", "orElse", "(Ljava/lang/Object;)Ljava/lang/Object;"⟩ : MethodName)) (z := (⟨"java/util/Optional", "orElse", "(Ljava/lang/Object;)Ljava/lang/Object;"⟩ : MethodName)) hown (mvT hZ (hw _ (List.mem_of_getElem? (i := 28) rfl))) (mvT hZ (hw _ (List.mem_of_getElem? (i := 29) rfl))) (notFace_of_selects (args := #[]) (mvT hZ (hw _ (List.mem_of_getElem? (i := 31) rfl)))) (mvT hZ (hw _ (List.mem_of_getElem? (i := 31) rfl))) (mvT hZ (hw _ (List.mem_of_getElem? (i := 30) rfl))) (by decide) (backOf (W := 0) (rm4 l Z a0 hw [] ba .null rfl ha1 Fa) hZ (hw _ (List.mem_of_getElem? (i := 32) rfl)) (hw _ (List.mem_of_getElem? (i := 25) rfl)) (by decide) (by decide)) qba qbc (g := (mkF m 64 #[.val (.int p1), .val (.int p2), .val (.int (p2 &&& (3 : Int32))), .val (.int cc), .val (.ref ba), .unset, .unset] [.null, (.ref ba)])) rfl (by rw [hml]; rfl) (Steps.refl _) (argsL := [.null]) (rest := []) (lenOf pd_4 rfl) rfl (by show 2 * 0 + _ ≤ _; exact Nat.le_of_eq rfl) (hb hby at_64) (fun _ _ => ⟨rfl, ea, Nat.le_of_ble_eq_true rfl, Nat.le_of_ble_eq_true rfl⟩)
      dsimp only [Pt.U, Pt.locs, Pt.cells, Pt.slots] at Xb lb yb zb stb hQb
      subst lb yb zb
      obtain ⟨rfl, rfl, eb⟩ := hQb
      refine own_lift (T' := Tb) (f' := (mkF m 67 #[.val (.int p1), .val (.int p2), .val (.int (p2 &&& (3 : Int32))), .val (.int cc), .val (.ref ba), .unset, .unset] [.null])) (fun _ k => stb.trans k) ?_
      refine own_lift (T' := Tb) (f' := (mkF m 70 #[.val (.int p1), .val (.int p2), .val (.int (p2 &&& (3 : Int32))), .val (.int cc), .val (.ref ba), .unset, .unset] [.null])) (Xb.checkcastNull hx (g := (mkF m 67 #[.val (.int p1), .val (.int p2), .val (.int (p2 &&& (3 : Int32))), .val (.int cc), .val (.ref ba), .unset, .unset] [.null])) rfl rfl (hb hby at_67)) ?_
      refine own_lift (T' := Tb) (f' := (mkF m 72 #[.val (.int p1), .val (.int p2), .val (.int (p2 &&& (3 : Int32))), .val (.int cc), .val (.ref ba), .val .null, .unset] [])) (fun _ k => XS.astore Xb.here hx rfl (hb hby at_70) rfl rfl (l' := #[.val (.int p1), .val (.int p2), .val (.int (p2 &&& (3 : Int32))), .val (.int cc), .val (.ref ba), .val .null, .unset]) rfl k) ?_
      refine own_lift (T' := Tb) (f' := (mkF m 73 #[.val (.int p1), .val (.int p2), .val (.int (p2 &&& (3 : Int32))), .val (.int cc), .val (.ref ba), .val .null, .unset] [(.int cc)])) (fun _ k => XS.iloadN Xb.here hx rfl (hb hby at_72) rfl k) ?_
      refine own_lift (T' := Tb) (f' := (mkF m 75 #[.val (.int p1), .val (.int p2), .val (.int (p2 &&& (3 : Int32))), .val (.int cc), .val (.ref ba), .val .null, .unset] [(.int (64 : Int32)), (.int cc)])) (fun _ k => XS.bipush Xb.here hx rfl (hb hby at_73) k) ?_
      refine own_lift (T' := Tb) (f' := (mkF m 86 #[.val (.int p1), .val (.int p2), .val (.int (p2 &&& (3 : Int32))), .val (.int cc), .val (.ref ba), .val .null, .unset] [])) (fun _ k => XS.icmpYes Xb.here hx rfl (pc0 := 75) (pc' := 86) rfl (hb hby at_75) rfl (feq c64).2 (by decide) (by decide) k) ?_
      refine own_lift (T' := Tb) (f' := (mkF m 87 #[.val (.int p1), .val (.int p2), .val (.int (p2 &&& (3 : Int32))), .val (.int cc), .val (.ref ba), .val .null, .unset] [(.int cc)])) (fun _ k => XS.iloadN Xb.here hx rfl (hb hby at_86) rfl k) ?_
      refine own_lift (T' := Tb) (f' := (mkF m 89 #[.val (.int p1), .val (.int p2), .val (.int (p2 &&& (3 : Int32))), .val (.int cc), .val (.ref ba), .val .null, .unset] [(.int (32 : Int32)), (.int cc)])) (fun _ k => XS.bipush Xb.here hx rfl (hb hby at_87) k) ?_
      refine own_lift (T' := Tb) (f' := (mkF m 100 #[.val (.int p1), .val (.int p2), .val (.int (p2 &&& (3 : Int32))), .val (.int cc), .val (.ref ba), .val .null, .unset] [])) (fun _ k => XS.icmpYes Xb.here hx rfl (pc0 := 89) (pc' := 100) rfl (hb hby at_89) rfl (feq c32).2 (by decide) (by decide) k) ?_
      refine own_lift (T' := Tb) (f' := (mkF m 101 #[.val (.int p1), .val (.int p2), .val (.int (p2 &&& (3 : Int32))), .val (.int cc), .val (.ref ba), .val .null, .unset] [.null])) (fun _ k => XS.aconstNull Xb.here hx rfl (hb hby at_100) k) ?_
      refine own_lift (T' := Tb) (f' := (mkF m 103 #[.val (.int p1), .val (.int p2), .val (.int (p2 &&& (3 : Int32))), .val (.int cc), .val (.ref ba), .val .null, .val .null] [])) (fun _ k => XS.astore Xb.here hx rfl (hb hby at_101) rfl rfl (l' := #[.val (.int p1), .val (.int p2), .val (.int (p2 &&& (3 : Int32))), .val (.int cc), .val (.ref ba), .val .null, .val .null]) rfl k) ?_
      refine own_lift (T' := Tb) (f' := (mkF m 105 #[.val (.int p1), .val (.int p2), .val (.int (p2 &&& (3 : Int32))), .val (.int cc), .val (.ref ba), .val .null, .val .null] [.null])) (fun _ k => XS.aload Xb.here hx rfl (hb hby at_103) rfl rfl k) ?_
      refine own_lift (T' := Tb) (f' := (mkF m 107 #[.val (.int p1), .val (.int p2), .val (.int (p2 &&& (3 : Int32))), .val (.int cc), .val (.ref ba), .val .null, .val .null] [.null, .null])) (fun _ k => XS.aload Xb.here hx rfl (hb hby at_105) rfl rfl k) ?_
      refine own_lift (T' := Tb) (f' := (mkF m 110 #[.val (.int p1), .val (.int p2), .val (.int (p2 &&& (3 : Int32))), .val (.int cc), .val (.ref ba), .val .null, .val .null] [])) (fun _ k => Jvm.RoadKit.acmp (g := (mkF m 107 #[.val (.int p1), .val (.int p2), .val (.int (p2 &&& (3 : Int32))), .val (.int cc), .val (.ref ba), .val .null, .val .null] [.null, .null])) Xb hx rfl rfl rfl (pc0 := 107) (pc' := 110) (same := true) rfl (hb hby at_107) rfl (decide_eq_true rfl) (by decide) (by decide) k) ?_
      refine own_lift (T' := Tb) (f' := (mkF m 111 #[.val (.int p1), .val (.int p2), .val (.int (p2 &&& (3 : Int32))), .val (.int cc), .val (.ref ba), .val .null, .val .null] [(.int (1 : Int32))])) (fun _ k => XS.iconst Xb.here hx rfl (hb hby at_110) k) ?_
      refine own_lift (T' := Tb) (f' := (mkF m 115 #[.val (.int p1), .val (.int p2), .val (.int (p2 &&& (3 : Int32))), .val (.int cc), .val (.ref ba), .val .null, .val .null] [(.int (1 : Int32))])) (fun _ k => XS.goto Xb.here hx rfl (pc0 := 111) (pc' := 115) rfl (hb hby at_111) (by decide) (by decide) k) ?_
      exact own_retG Xb hx hlk Bd.returns rfl (Or.inl ⟨rfl, by simp, _, rfl⟩) (hb hby at_115) ⟨rfl, Fr.app (Fr.app N0 Na) (Fr.nil n0)⟩ (by decide) (by decide)
  refine own_lift (T' := s₁) (f' := (mkF m 1 #[.val (.int p1), .val (.int p2), .unset, .unset, .unset, .unset, .unset] [(.int p2)])) (fun _ k => XS.iloadN X0.here hx rfl (hb hby at_0) rfl k) ?_
  refine own_lift (T' := s₁) (f' := (mkF m 2 #[.val (.int p1), .val (.int p2), .unset, .unset, .unset, .unset, .unset] [(.int (3 : Int32)), (.int p2)])) (fun _ k => XS.iconst X0.here hx rfl (hb hby at_1) k) ?_
  refine own_lift (T' := s₁) (f' := (mkF m 3 #[.val (.int p1), .val (.int p2), .unset, .unset, .unset, .unset, .unset] [(.int (p2 &&& (3 : Int32)))])) (fun _ k => XS.iand X0.here hx rfl (hb hby at_2) rfl k) ?_
  refine own_lift (T' := s₁) (f' := (mkF m 4 #[.val (.int p1), .val (.int p2), .val (.int (p2 &&& (3 : Int32))), .unset, .unset, .unset, .unset] [])) (fun _ k => XS.istoreN X0.here hx rfl (hb hby at_3) rfl (l' := #[.val (.int p1), .val (.int p2), .val (.int (p2 &&& (3 : Int32))), .unset, .unset, .unset, .unset]) rfl k) ?_
  refine own_lift (T' := s₁) (f' := (mkF m 5 #[.val (.int p1), .val (.int p2), .val (.int (p2 &&& (3 : Int32))), .unset, .unset, .unset, .unset] [(.int (p2 &&& (3 : Int32)))])) (fun _ k => XS.iloadN X0.here hx rfl (hb hby at_4) rfl k) ?_
  by_cases k0 : (p2 &&& (3 : Int32)) = (0 : Int32)
  · refine own_lift (T' := s₁) (f' := (mkF m 8 #[.val (.int p1), .val (.int p2), .val (.int (p2 &&& (3 : Int32))), .unset, .unset, .unset, .unset] [])) (fun _ k => XS.ifNo X0.here hx rfl (hb hby at_5) rfl ((if0 _ _).trans (teq k0).2) k) ?_
    refine own_lift (T' := s₁) (f' := (mkF m 10 #[.val (.int p1), .val (.int p2), .val (.int (p2 &&& (3 : Int32))), .unset, .unset, .unset, .unset] [(.int (64 : Int32))])) (fun _ k => XS.bipush X0.here hx rfl (hb hby at_8) k) ?_
    refine own_lift (T' := s₁) (f' := (mkF m 11 #[.val (.int p1), .val (.int p2), .val (.int (p2 &&& (3 : Int32))), .val (.int (64 : Int32)), .unset, .unset, .unset] [])) (fun _ k => XS.istoreN X0.here hx rfl (hb hby at_10) rfl (l' := #[.val (.int p1), .val (.int p2), .val (.int (p2 &&& (3 : Int32))), .val (.int (64 : Int32)), .unset, .unset, .unset]) rfl k) ?_
    refine own_lift (T' := s₁) (f' := (mkF m 55 #[.val (.int p1), .val (.int p2), .val (.int (p2 &&& (3 : Int32))), .val (.int (64 : Int32)), .unset, .unset, .unset] [])) (fun _ k => XS.goto X0.here hx rfl (pc0 := 11) (pc' := 55) rfl (hb hby at_11) (by decide) (by decide) k) ?_
    exact J55 s₁ (64 : Int32) X0 e0
  · refine own_lift (T' := s₁) (f' := (mkF m 14 #[.val (.int p1), .val (.int p2), .val (.int (p2 &&& (3 : Int32))), .unset, .unset, .unset, .unset] [])) (fun _ k => XS.ifYes X0.here hx rfl (pc0 := 5) (pc' := 14) rfl (hb hby at_5) rfl ((if0 _ _).trans (feq k0).2) (by decide) (by decide) k) ?_
    refine own_lift (T' := s₁) (f' := (mkF m 15 #[.val (.int p1), .val (.int p2), .val (.int (p2 &&& (3 : Int32))), .unset, .unset, .unset, .unset] [(.int (p2 &&& (3 : Int32)))])) (fun _ k => XS.iloadN X0.here hx rfl (hb hby at_14) rfl k) ?_
    refine own_lift (T' := s₁) (f' := (mkF m 16 #[.val (.int p1), .val (.int p2), .val (.int (p2 &&& (3 : Int32))), .unset, .unset, .unset, .unset] [(.int (1 : Int32)), (.int (p2 &&& (3 : Int32)))])) (fun _ k => XS.iconst X0.here hx rfl (hb hby at_15) k) ?_
    by_cases k1 : (p2 &&& (3 : Int32)) = (1 : Int32)
    · refine own_lift (T' := s₁) (f' := (mkF m 19 #[.val (.int p1), .val (.int p2), .val (.int (p2 &&& (3 : Int32))), .unset, .unset, .unset, .unset] [])) (fun _ k => XS.icmpNo X0.here hx rfl (hb hby at_16) rfl (teq k1).2 k) ?_
      refine own_lift (T' := s₁) (f' := (mkF m 21 #[.val (.int p1), .val (.int p2), .val (.int (p2 &&& (3 : Int32))), .unset, .unset, .unset, .unset] [(.int (32 : Int32))])) (fun _ k => XS.bipush X0.here hx rfl (hb hby at_19) k) ?_
      refine own_lift (T' := s₁) (f' := (mkF m 22 #[.val (.int p1), .val (.int p2), .val (.int (p2 &&& (3 : Int32))), .val (.int (32 : Int32)), .unset, .unset, .unset] [])) (fun _ k => XS.istoreN X0.here hx rfl (hb hby at_21) rfl (l' := #[.val (.int p1), .val (.int p2), .val (.int (p2 &&& (3 : Int32))), .val (.int (32 : Int32)), .unset, .unset, .unset]) rfl k) ?_
      refine own_lift (T' := s₁) (f' := (mkF m 55 #[.val (.int p1), .val (.int p2), .val (.int (p2 &&& (3 : Int32))), .val (.int (32 : Int32)), .unset, .unset, .unset] [])) (fun _ k => XS.goto X0.here hx rfl (pc0 := 22) (pc' := 55) rfl (hb hby at_22) (by decide) (by decide) k) ?_
      exact J55 s₁ (32 : Int32) X0 e0
    · refine own_lift (T' := s₁) (f' := (mkF m 25 #[.val (.int p1), .val (.int p2), .val (.int (p2 &&& (3 : Int32))), .unset, .unset, .unset, .unset] [])) (fun _ k => XS.icmpYes X0.here hx rfl (pc0 := 16) (pc' := 25) rfl (hb hby at_16) rfl (feq k1).2 (by decide) (by decide) k) ?_
      refine own_lift (T' := s₁) (f' := (mkF m 26 #[.val (.int p1), .val (.int p2), .val (.int (p2 &&& (3 : Int32))), .unset, .unset, .unset, .unset] [(.int (p2 &&& (3 : Int32)))])) (fun _ k => XS.iloadN X0.here hx rfl (hb hby at_25) rfl k) ?_
      refine own_lift (T' := s₁) (f' := (mkF m 27 #[.val (.int p1), .val (.int p2), .val (.int (p2 &&& (3 : Int32))), .unset, .unset, .unset, .unset] [(.int (2 : Int32)), (.int (p2 &&& (3 : Int32)))])) (fun _ k => XS.iconst X0.here hx rfl (hb hby at_26) k) ?_
      by_cases k2 : (p2 &&& (3 : Int32)) = (2 : Int32)
      · refine own_lift (T' := s₁) (f' := (mkF m 30 #[.val (.int p1), .val (.int p2), .val (.int (p2 &&& (3 : Int32))), .unset, .unset, .unset, .unset] [])) (fun _ k => XS.icmpNo X0.here hx rfl (hb hby at_27) rfl (teq k2).2 k) ?_
        refine own_lift (T' := s₁) (f' := (mkF m 31 #[.val (.int p1), .val (.int p2), .val (.int (p2 &&& (3 : Int32))), .unset, .unset, .unset, .unset] [(.int p1)])) (fun _ k => XS.iloadN X0.here hx rfl (hb hby at_30) rfl k) ?_
        refine own_lift (T' := s₁) (f' := (mkF m 32 #[.val (.int p1), .val (.int p2), .val (.int (p2 &&& (3 : Int32))), .unset, .unset, .unset, .unset] [(.int (1 : Int32)), (.int p1)])) (fun _ k => XS.iconst X0.here hx rfl (hb hby at_31) k) ?_
        refine own_lift (T' := s₁) (f' := (mkF m 33 #[.val (.int p1), .val (.int p2), .val (.int (p2 &&& (3 : Int32))), .unset, .unset, .unset, .unset] [(.int (p1 &&& (1 : Int32)))])) (fun _ k => XS.iand X0.here hx rfl (hb hby at_32) rfl k) ?_
        by_cases b1 : (p1 &&& (1 : Int32)) = (0 : Int32)
        · refine own_lift (T' := s₁) (f' := (mkF m 41 #[.val (.int p1), .val (.int p2), .val (.int (p2 &&& (3 : Int32))), .unset, .unset, .unset, .unset] [])) (fun _ k => XS.ifYes X0.here hx rfl (pc0 := 33) (pc' := 41) rfl (hb hby at_33) rfl ((if0 _ _).trans (teq b1).1) (by decide) (by decide) k) ?_
          refine own_lift (T' := s₁) (f' := (mkF m 43 #[.val (.int p1), .val (.int p2), .val (.int (p2 &&& (3 : Int32))), .unset, .unset, .unset, .unset] [(.int (32 : Int32))])) (fun _ k => XS.bipush X0.here hx rfl (hb hby at_41) k) ?_
          refine own_lift (T' := s₁) (f' := (mkF m 44 #[.val (.int p1), .val (.int p2), .val (.int (p2 &&& (3 : Int32))), .unset, .unset, .unset, .unset] [(.int p1), (.int (32 : Int32))])) (fun _ k => XS.iloadN X0.here hx rfl (hb hby at_43) rfl k) ?_
          refine own_lift (T' := s₁) (f' := (mkF m 45 #[.val (.int p1), .val (.int p2), .val (.int (p2 &&& (3 : Int32))), .unset, .unset, .unset, .unset] [(.int (1 : Int32)), (.int p1), (.int (32 : Int32))])) (fun _ k => XS.iconst X0.here hx rfl (hb hby at_44) k) ?_
          refine own_lift (T' := s₁) (f' := (mkF m 46 #[.val (.int p1), .val (.int p2), .val (.int (p2 &&& (3 : Int32))), .unset, .unset, .unset, .unset] [(.int (p1 >>> ((1 : Int32) &&& 31))), (.int (32 : Int32))])) (fun _ k => XS.ishr X0.here hx rfl (hb hby at_45) rfl k) ?_
          refine own_lift (T' := s₁) (f' := (mkF m 47 #[.val (.int p1), .val (.int p2), .val (.int (p2 &&& (3 : Int32))), .unset, .unset, .unset, .unset] [(.int (3 : Int32)), (.int (p1 >>> ((1 : Int32) &&& 31))), (.int (32 : Int32))])) (fun _ k => XS.iconst X0.here hx rfl (hb hby at_46) k) ?_
          refine own_lift (T' := s₁) (f' := (mkF m 48 #[.val (.int p1), .val (.int p2), .val (.int (p2 &&& (3 : Int32))), .unset, .unset, .unset, .unset] [(.int ((p1 >>> ((1 : Int32) &&& 31)) % (3 : Int32))), (.int (32 : Int32))])) (fun _ k => iremM X0 hx rfl (hb hby at_47) rfl (by decide) k) ?_
          refine own_lift (T' := s₁) (f' := (mkF m 49 #[.val (.int p1), .val (.int p2), .val (.int (p2 &&& (3 : Int32))), .unset, .unset, .unset, .unset] [(.int ((32 : Int32) + ((p1 >>> ((1 : Int32) &&& 31)) % (3 : Int32))))])) (fun _ k => XS.iadd X0.here hx rfl (hb hby at_48) rfl k) ?_
          refine own_lift (T' := s₁) (f' := (mkF m 50 #[.val (.int p1), .val (.int p2), .val (.int (p2 &&& (3 : Int32))), .val (.int ((32 : Int32) + ((p1 >>> ((1 : Int32) &&& 31)) % (3 : Int32)))), .unset, .unset, .unset] [])) (fun _ k => XS.istoreN X0.here hx rfl (hb hby at_49) rfl (l' := #[.val (.int p1), .val (.int p2), .val (.int (p2 &&& (3 : Int32))), .val (.int ((32 : Int32) + ((p1 >>> ((1 : Int32) &&& 31)) % (3 : Int32)))), .unset, .unset, .unset]) rfl k) ?_
          refine own_lift (T' := s₁) (f' := (mkF m 55 #[.val (.int p1), .val (.int p2), .val (.int (p2 &&& (3 : Int32))), .val (.int ((32 : Int32) + ((p1 >>> ((1 : Int32) &&& 31)) % (3 : Int32)))), .unset, .unset, .unset] [])) (fun _ k => XS.goto X0.here hx rfl (pc0 := 50) (pc' := 55) rfl (hb hby at_50) (by decide) (by decide) k) ?_
          exact J55 s₁ ((32 : Int32) + ((p1 >>> ((1 : Int32) &&& 31)) % (3 : Int32))) X0 e0
        · refine own_lift (T' := s₁) (f' := (mkF m 36 #[.val (.int p1), .val (.int p2), .val (.int (p2 &&& (3 : Int32))), .unset, .unset, .unset, .unset] [])) (fun _ k => XS.ifNo X0.here hx rfl (hb hby at_33) rfl ((if0 _ _).trans (feq b1).1) k) ?_
          refine own_lift (T' := s₁) (f' := (mkF m 38 #[.val (.int p1), .val (.int p2), .val (.int (p2 &&& (3 : Int32))), .unset, .unset, .unset, .unset] [(.int (64 : Int32))])) (fun _ k => XS.bipush X0.here hx rfl (hb hby at_36) k) ?_
          refine own_lift (T' := s₁) (f' := (mkF m 43 #[.val (.int p1), .val (.int p2), .val (.int (p2 &&& (3 : Int32))), .unset, .unset, .unset, .unset] [(.int (64 : Int32))])) (fun _ k => XS.goto X0.here hx rfl (pc0 := 38) (pc' := 43) rfl (hb hby at_38) (by decide) (by decide) k) ?_
          refine own_lift (T' := s₁) (f' := (mkF m 44 #[.val (.int p1), .val (.int p2), .val (.int (p2 &&& (3 : Int32))), .unset, .unset, .unset, .unset] [(.int p1), (.int (64 : Int32))])) (fun _ k => XS.iloadN X0.here hx rfl (hb hby at_43) rfl k) ?_
          refine own_lift (T' := s₁) (f' := (mkF m 45 #[.val (.int p1), .val (.int p2), .val (.int (p2 &&& (3 : Int32))), .unset, .unset, .unset, .unset] [(.int (1 : Int32)), (.int p1), (.int (64 : Int32))])) (fun _ k => XS.iconst X0.here hx rfl (hb hby at_44) k) ?_
          refine own_lift (T' := s₁) (f' := (mkF m 46 #[.val (.int p1), .val (.int p2), .val (.int (p2 &&& (3 : Int32))), .unset, .unset, .unset, .unset] [(.int (p1 >>> ((1 : Int32) &&& 31))), (.int (64 : Int32))])) (fun _ k => XS.ishr X0.here hx rfl (hb hby at_45) rfl k) ?_
          refine own_lift (T' := s₁) (f' := (mkF m 47 #[.val (.int p1), .val (.int p2), .val (.int (p2 &&& (3 : Int32))), .unset, .unset, .unset, .unset] [(.int (3 : Int32)), (.int (p1 >>> ((1 : Int32) &&& 31))), (.int (64 : Int32))])) (fun _ k => XS.iconst X0.here hx rfl (hb hby at_46) k) ?_
          refine own_lift (T' := s₁) (f' := (mkF m 48 #[.val (.int p1), .val (.int p2), .val (.int (p2 &&& (3 : Int32))), .unset, .unset, .unset, .unset] [(.int ((p1 >>> ((1 : Int32) &&& 31)) % (3 : Int32))), (.int (64 : Int32))])) (fun _ k => iremM X0 hx rfl (hb hby at_47) rfl (by decide) k) ?_
          refine own_lift (T' := s₁) (f' := (mkF m 49 #[.val (.int p1), .val (.int p2), .val (.int (p2 &&& (3 : Int32))), .unset, .unset, .unset, .unset] [(.int ((64 : Int32) + ((p1 >>> ((1 : Int32) &&& 31)) % (3 : Int32))))])) (fun _ k => XS.iadd X0.here hx rfl (hb hby at_48) rfl k) ?_
          refine own_lift (T' := s₁) (f' := (mkF m 50 #[.val (.int p1), .val (.int p2), .val (.int (p2 &&& (3 : Int32))), .val (.int ((64 : Int32) + ((p1 >>> ((1 : Int32) &&& 31)) % (3 : Int32)))), .unset, .unset, .unset] [])) (fun _ k => XS.istoreN X0.here hx rfl (hb hby at_49) rfl (l' := #[.val (.int p1), .val (.int p2), .val (.int (p2 &&& (3 : Int32))), .val (.int ((64 : Int32) + ((p1 >>> ((1 : Int32) &&& 31)) % (3 : Int32)))), .unset, .unset, .unset]) rfl k) ?_
          refine own_lift (T' := s₁) (f' := (mkF m 55 #[.val (.int p1), .val (.int p2), .val (.int (p2 &&& (3 : Int32))), .val (.int ((64 : Int32) + ((p1 >>> ((1 : Int32) &&& 31)) % (3 : Int32)))), .unset, .unset, .unset] [])) (fun _ k => XS.goto X0.here hx rfl (pc0 := 50) (pc' := 55) rfl (hb hby at_50) (by decide) (by decide) k) ?_
          exact J55 s₁ ((64 : Int32) + ((p1 >>> ((1 : Int32) &&& 31)) % (3 : Int32))) X0 e0
      · refine own_lift (T' := s₁) (f' := (mkF m 53 #[.val (.int p1), .val (.int p2), .val (.int (p2 &&& (3 : Int32))), .unset, .unset, .unset, .unset] [])) (fun _ k => XS.icmpYes X0.here hx rfl (pc0 := 27) (pc' := 53) rfl (hb hby at_27) rfl (feq k2).2 (by decide) (by decide) k) ?_
        refine own_lift (T' := s₁) (f' := (mkF m 54 #[.val (.int p1), .val (.int p2), .val (.int (p2 &&& (3 : Int32))), .unset, .unset, .unset, .unset] [(.int p1)])) (fun _ k => XS.iloadN X0.here hx rfl (hb hby at_53) rfl k) ?_
        refine own_lift (T' := s₁) (f' := (mkF m 55 #[.val (.int p1), .val (.int p2), .val (.int (p2 &&& (3 : Int32))), .val (.int p1), .unset, .unset, .unset] [])) (fun _ k => XS.istoreN X0.here hx rfl (hb hby at_54) rfl (l' := #[.val (.int p1), .val (.int p2), .val (.int (p2 &&& (3 : Int32))), .val (.int p1), .unset, .unset, .unset]) rfl k) ?_
        exact J55 s₁ p1 X0 e0
set_option maxRecDepth 65536 in
set_option maxHeartbeats 40000000 in
theorem comes_1 {Post : Tables → Env → Array Value → State → Outcome → State → Prop} (hpost : ∀ tb e args s v u, (limb_1_1.after args s (.returned v) u = true ∧ limb_1_2.after args s (.returned v) u = true ∧ True) → FrameEnd s (.returned v) u (Jvm.fieldLocs frame_1_writes args s ++ Jvm.arrayLocs frame_1_arrays args s ++ Jvm.staticLocs frame_1_statics s) 16 128 → Post tb e args s (.returned v) u) :
    ArmFor flags0 classFile x code maxLocals ret World_1 tables_1 room_1 Calls_1 rest_1 Pre_1 Post := by
  intro l hfl _ _ p e ha hc hk s m args below hf hA hF happ hP
  obtain ⟨hcalls, hrest, hpre⟩ := hP
  obtain ⟨-, -, -, hnamed, -, -, -, hat⟩ := (Spec.applies_iff hf).mp happ
  obtain ⟨hg, hn⟩ := and_e (Cond.before_iff.mp (show (Jvm.Cond.and given_1 narrow_1).before args s = true from hpre))
  obtain ⟨g8, g9⟩ := and_e hg
  obtain ⟨g10, g11⟩ := and_e g9
  obtain ⟨w0, w1, rfl⟩ : ∃ w0 w1 : Value, args = #[w0, w1] := by
    have hs : args.size = 2 := by simpa [Cond.value, given_1] using g8
    obtain ⟨L⟩ := args
    match L, hs with
    | [w0, w1], _ => exact ⟨w0, w1, rfl⟩
  have hw := fun d (hd : d ∈ tables_1) => atoms_spec (ws := Jvm.Cond.code x code maxLocals ret :: tables_1) hat d (List.mem_cons_of_mem _ hd)
  have hfit : Fit s := fun {y c} hc i hi => by
    obtain ⟨ha, rfl⟩ := Array.getElem?_eq_some_iff.mp hc
    have q := List.all_eq_true.mp ((Array.all_eq_true_iff_forall_mem.mp hF) _ (Array.getElem_mem ha)) i (List.mem_range.mpr hi)
    simpa [Array.getElem?_eq_getElem hi] using q
  obtain ⟨hsets, hown0⟩ := atoms_of _ (rest_1_c_eq ▸ (show rest_1_c.before _ s = true from hrest))
  have hr0 := Cond.before_iff.mp hown0
  obtain ⟨i0, ei0⟩ := is_v g10
  obtain rfl : w0 = (.int i0) := Option.some.inj ei0
  obtain ⟨i1, ei1⟩ := is_v g11
  obtain rfl : w1 = (.int i1) := Option.some.inj ei1
  obtain ⟨c0, hn⟩ := and_e hn
  obtain ⟨c1, hn⟩ := and_e hn
  obtain ⟨c2, hn⟩ := and_e hn
  obtain ⟨c3, hn⟩ := and_e hn
  obtain ⟨c4, hn⟩ := and_e hn
  obtain ⟨c5, hn⟩ := and_e hn
  obtain ⟨c6, hn⟩ := and_e hn
  obtain ⟨c7, c8⟩ := and_e hn
  obtain ⟨wV, evV⟩ := exa_v c1
  obtain ⟨wS, evS⟩ := exa_v c3
  obtain ⟨wM, evM⟩ := exa_v c5
  have S_VALUES : Sta s s.heap "com/example/hashkeep/hashkeep/store/DigestAlgorithm" "$VALUES" "[Lcom/example/hashkeep/hashkeep/store/DigestAlgorithm;" (.ref wV) := Sta.start evV (Or.inr ⟨(hw _ (List.mem_of_getElem? (i := 2) rfl)), (hw _ (List.mem_of_getElem? (i := 8) rfl))⟩)
  have S_SHA_256 : Sta s s.heap "com/example/hashkeep/hashkeep/store/DigestAlgorithm" "SHA_256" "Lcom/example/hashkeep/hashkeep/store/DigestAlgorithm;" (.ref wS) := Sta.start evS (Or.inr ⟨(hw _ (List.mem_of_getElem? (i := 2) rfl)), (hw _ (List.mem_of_getElem? (i := 16) rfl))⟩)
  have S_MD5 : Sta s s.heap "com/example/hashkeep/hashkeep/store/DigestAlgorithm" "MD5" "Lcom/example/hashkeep/hashkeep/store/DigestAlgorithm;" (.ref wM) := Sta.start evM (Or.inr ⟨(hw _ (List.mem_of_getElem? (i := 2) rfl)), (hw _ (List.mem_of_getElem? (i := 17) rfl))⟩)
  have E_V : Exa s s.heap wV "[Lcom/example/hashkeep/hashkeep/store/DigestAlgorithm;" := Exa.start evV c1
  have E_S : Exa s s.heap wS "com/example/hashkeep/hashkeep/store/DigestAlgorithm" := Exa.start evS c3
  have E_M : Exa s s.heap wM "com/example/hashkeep/hashkeep/store/DigestAlgorithm" := Exa.start evM c5
  obtain ⟨cl, A_V⟩ := Arr.start evV c0
  have hsz : cl.slots.size = 2 := own_len evV (A_V.fin (Vm.Alike.refl _)) c2
  have el0 : cl.slots[0]? = some (.ref wS) := own_el evV evS A_V.1 c4
  have el1 : cl.slots[1]? = some (.ref wM) := own_el evV evM A_V.1 c6
  have F_S : Fld s s.heap wS "com/example/hashkeep/hashkeep/store/DigestAlgorithm" "hexDigits" "I" (.int (64 : Int32)) := Fld.start (own_fld evS c7)
  have F_M : Fld s s.heap wM "com/example/hashkeep/hashkeep/store/DigestAlgorithm" "hexDigits" "I" (.int (32 : Int32)) := Fld.start (own_fld evM c8)
  have s2 := Cond.before_iff.mp (hsets _ (List.mem_of_getElem? (i := 2) rfl))
  have s3 := Cond.before_iff.mp (hsets _ (List.mem_of_getElem? (i := 3) rfl))
  obtain ⟨wE, evE⟩ := exa_v s2
  have S_EMPTY : Sta s s.heap "java/util/Optional" "EMPTY" "Ljava/util/Optional;" (.ref wE) := Sta.start evE (Or.inl (hsets _ (List.mem_of_getElem? (i := 1) rfl)))
  have E_E : Exa s s.heap wE "java/util/Optional" := Exa.start evE s2
  have F_E : Fld s s.heap wE "java/util/Optional" "value" "Ljava/lang/Object;" .null := Fld.start ((fld_at evE).symm.trans (null_v s3))
  obtain ⟨n, o, h1, h2, h3, _, L, rfl, ⟨rfl, N⟩, hq⟩ := rm0 l s _ hw tables_1 i0 i1 wV wS wM wE cl s.heap s.heap.size (Nat.le_refl _) S_SHA_256 S_MD5 E_S E_M S_VALUES E_V A_V (FitC.start hfit A_V) hsz el0 el1 F_S F_M S_EMPTY E_E F_E p e ha hc hk s m _ below hf ((Spec.applies_iff_loose hf).mp happ).1 ⟨rfl, State.Warmed39.refl s, rfl⟩ trivial
  refine ⟨n, _, h1, h2, h3, hpost _ _ _ _ _ _ ⟨Cond.after_iff.mpr rfl, Cond.after_iff.mpr (eq_i res_at (Term.int_eval (1)) rfl), trivial⟩ ⟨hq.1, hq.2.1, (hq.2.2.sift fun y hy => Or.inr (N y hy)).mono (by decide) (by decide)⟩⟩
theorem main_1_1 : Claimed_1_1 := comes_1 fun _ _ _ _ _ _ h hF => ⟨h.1, hF⟩
theorem main_1_2 : Claimed_1_2 := comes_1 fun _ _ _ _ _ _ h hF => ⟨h.2.1, hF⟩
end Jvm.Pilot.@@N@@
namespace Jvm.Pilot.@@N@@
open Jvm Jvm.ClassFile Sem Op Lib Jvm.Free Jvm.Stand Jvm.Pilot.@@N@@.Jvm.D
/-! MADE BY PROGRAM (witnessworld.py) out of the Statement's table words and the real class files: 14 classes; the members and pool entries that the words name. The judged class is class 1, her method 1. -/
namespace start1
open Jvm.ClassFile
def u (s : String) : CpInfo := .utf8 (stringToUtf16 s)
/-- a pool by its gaps: so many unusable entries, then the entry; so many at the end -/
def gap : Nat → List CpInfo → List CpInfo
  | 0, r => r
  | n + 1, r => .unusable :: gap n r
def poolList (es : List (Nat × CpInfo)) (last : Nat) : List CpInfo := es.foldr (fun e r => gap e.1 (e.2 :: r)) (gap last [])
def pool (es : List (Nat × CpInfo)) (last : Nat) : Array CpInfo := ⟨poolList es last⟩
def fileOf (pool : Array CpInfo) (this : Nat) (attrs : Array Attribute := #[]) (ms : Array MethodInfo := #[]) (fl : Nat := 33) (sup : Nat := 0) (ifs : Array Nat := #[]) (fds : Array FieldInfo := #[]) : ClassFile where
  minorVersion := 0
  majorVersion := 65
  constantPool := pool
  accessFlags := fl
  thisClass := this
  superClass := sup
  interfaces := ifs
  fields := fds
  methods := ms
  attributes := attrs
def plain (name : String) (sup : Option ClassId) : Class where
  name := name
  kind := .ordinary
  loader := none
  accessFlags := 33
  super := sup
  interfaces := #[]
  cf := none
  fields := #[]
  methods := #[]
  instanceTypes := #[]
  staticTypes := #[]
  resolved := #[]
  callSites := []
  init := .initialized
  statics := none
  mirror := none

def pool0 : Array CpInfo := pool [(5, u "<init>"), (0, u "()V"), (1, .class_ 10), (1, u "java/lang/Object"), (85, u "clone"), (0, u "()Ljava/lang/Object;")] 26

def k0c0 : Code := { maxStack := 0, maxLocals := 1, code := object_method_1_code, exceptionTable := #[], attributes := #[] }
def k0m0 : Method := { name := "<init>", desc := "()V", sig := { parameters := [], returnType := none }, accessFlags := 1, code := some k0c0 }
def k0m1 : Method := { name := "clone", desc := "()Ljava/lang/Object;", sig := { parameters := [], returnType := some (.object "java/lang/Object") }, accessFlags := 260, code := none }
/-- java/lang/Object -/
def k0 : Class := { plain "java/lang/Object" none with
  accessFlags := 33
  interfaces := #[]
  cf := some (fileOf pool0 8 #[] #[{ accessFlags := 1, nameIndex := 5, descriptorIndex := 6, attributes := #[] }, { accessFlags := 260, nameIndex := 96, descriptorIndex := 97, attributes := #[] }] 33 0 #[] #[])
  fields := #[]
  methods := #[k0m0, k0m1]
  instanceTypes := #[]
  staticTypes := #[]
  resolved := Array.replicate 124 none
  statics := none }

def pool1 : Array CpInfo := pool [(2, .class_ 4), (1, u "java/lang/Object"), (0, u "<init>"), (0, u "()V"), (0, .methodref 8 9), (0, .class_ 10), (0, .nameAndType 11 12), (0, u "com/example/hashkeep/hashkeep/store/DigestAlgorithm"), (0, u "ofHexDigits"), (0, u "(I)Ljava/util/Optional;"), (0, .methodref 14 15), (0, .class_ 16), (0, .nameAndType 17 18), (0, u "java/util/Optional"), (0, u "orElse"), (0, u "(Ljava/lang/Object;)Ljava/lang/Object;"), (0, .fieldref 8 20), (0, .nameAndType 21 22), (0, u "SHA_256"), (0, u "Lcom/example/hashkeep/hashkeep/store/DigestAlgorithm;"), (0, .fieldref 8 24), (0, .nameAndType 25 22), (0, u "MD5"), (0, .class_ 27), (0, u "com/example/hashkeep/hashkeep/store/DigestAlgorithmOfHexDigitsPinLaw"), (2, u "law"), (0, u "(II)Z")] 3

def k1m0 : Method := { name := "<init>", desc := "()V", sig := { parameters := [], returnType := none }, accessFlags := 2, code := none }
def k1c1 : Code := { maxStack := 3, maxLocals := 7, code := code, exceptionTable := #[], attributes := #[] }
def k1m1 : Method := { name := "law", desc := "(II)Z", sig := { parameters := [.int, .int], returnType := some .boolean }, accessFlags := 9, code := some k1c1 }
/-- com/example/hashkeep/hashkeep/store/DigestAlgorithmOfHexDigitsPinLaw -/
def k1 : Class := { plain "com/example/hashkeep/hashkeep/store/DigestAlgorithmOfHexDigitsPinLaw" (some 0) with
  accessFlags := 49
  interfaces := #[]
  cf := some (fileOf pool1 26 #[] #[{ accessFlags := 2, nameIndex := 5, descriptorIndex := 6, attributes := #[] }, { accessFlags := 9, nameIndex := 30, descriptorIndex := 31, attributes := #[] }] 49 2 #[] #[])
  fields := #[]
  methods := #[k1m0, k1m1]
  instanceTypes := #[]
  staticTypes := #[]
  resolved := Array.replicate 35 none
  statics := none }

def pool2 : Array CpInfo := pool [(1, .class_ 2), (0, u "java/lang/constant/Constable"), (0, .class_ 4), (0, u "java/lang/Object")] 6

/-- java/lang/constant/Constable -/
def k2 : Class := { plain "java/lang/constant/Constable" (some 0) with
  accessFlags := 1537
  interfaces := #[]
  cf := some (fileOf pool2 1 #[] #[] 1537 3 #[] #[])
  fields := #[]
  methods := #[]
  instanceTypes := #[]
  staticTypes := #[]
  resolved := Array.replicate 11 none
  statics := none }

def pool3 : Array CpInfo := pool [(1, .class_ 2), (0, u "java/lang/Comparable"), (0, .class_ 4), (0, u "java/lang/Object")] 7

/-- java/lang/Comparable -/
def k3 : Class := { plain "java/lang/Comparable" (some 0) with
  accessFlags := 1537
  interfaces := #[]
  cf := some (fileOf pool3 1 #[] #[] 1537 3 #[] #[])
  fields := #[]
  methods := #[]
  instanceTypes := #[]
  staticTypes := #[]
  resolved := Array.replicate 12 none
  statics := none }

def pool4 : Array CpInfo := pool [(1, .class_ 2), (0, u "java/io/Serializable"), (0, .class_ 4), (0, u "java/lang/Object")] 2

/-- java/io/Serializable -/
def k4 : Class := { plain "java/io/Serializable" (some 0) with
  accessFlags := 1537
  interfaces := #[]
  cf := some (fileOf pool4 1 #[] #[] 1537 3 #[] #[])
  fields := #[]
  methods := #[]
  instanceTypes := #[]
  staticTypes := #[]
  resolved := Array.replicate 7 none
  statics := none }

def pool5 : Array CpInfo := pool [(2, .class_ 4), (1, u "java/lang/Enum"), (0, u "name"), (0, u "Ljava/lang/String;"), (2, u "ordinal"), (0, u "I"), (1, .class_ 14), (1, u "java/lang/Object"), (4, u "hash"), (86, .class_ 108), (1, u "java/lang/Enum$EnumDesc"), (2, .class_ 112), (0, u "java/lang/constant/Constable"), (0, .class_ 114), (0, u "java/lang/Comparable"), (0, .class_ 116), (0, u "java/io/Serializable")] 87

/-- java/lang/Enum -/
def k5 : Class := { plain "java/lang/Enum" (some 0) with
  accessFlags := 1057
  interfaces := #[2, 3, 4]
  cf := some (fileOf pool5 2 #[.nestMembers #[106]] #[] 1057 12 #[111, 113, 115] #[{ accessFlags := 18, nameIndex := 5, descriptorIndex := 6, attributes := #[] }, { accessFlags := 18, nameIndex := 9, descriptorIndex := 10, attributes := #[] }, { accessFlags := 2, nameIndex := 19, descriptorIndex := 10, attributes := #[] }])
  fields := #[{ name := "name", type := (.object "java/lang/String"), accessFlags := 18, slot := 0, constantValue := 0 }, { name := "ordinal", type := .int, accessFlags := 18, slot := 1, constantValue := 0 }, { name := "hash", type := .int, accessFlags := 2, slot := 2, constantValue := 0 }]
  methods := #[]
  instanceTypes := #[(.object "java/lang/String"), .int, .int]
  staticTypes := #[]
  resolved := Array.replicate 204 none
  statics := none }

def pool6 : Array CpInfo := pool [(1, .class_ 2), (0, u "com/example/hashkeep/hashkeep/store/DigestAlgorithm"), (2, u "SHA_256"), (0, u "Lcom/example/hashkeep/hashkeep/store/DigestAlgorithm;"), (2, u "MD5"), (0, .fieldref 1 11), (0, .nameAndType 12 13), (0, u "$VALUES"), (0, u "[Lcom/example/hashkeep/hashkeep/store/DigestAlgorithm;"), (0, .methodref 15 16), (0, .class_ 13), (0, .nameAndType 17 18), (0, u "clone"), (0, u "()Ljava/lang/Object;"), (1, .class_ 22), (1, u "java/lang/Enum"), (8, u "standardName"), (0, u "Ljava/lang/String;"), (0, .fieldref 1 34), (0, .nameAndType 35 36), (0, u "hexDigits"), (0, u "I"), (0, .methodref 1 38), (0, .nameAndType 39 40), (0, u "values"), (0, u "()[Lcom/example/hashkeep/hashkeep/store/DigestAlgorithm;"), (0, .methodref 42 43), (0, .class_ 44), (0, .nameAndType 45 46), (0, u "java/util/Optional"), (0, u "ofNullable"), (0, u "(Ljava/lang/Object;)Ljava/util/Optional;"), (42, u "ofHexDigits"), (0, u "(I)Ljava/util/Optional;")] 27

def k6c0 : Code := { maxStack := 1, maxLocals := 0, code := prog_9_method_1_code, exceptionTable := #[], attributes := #[] }
def k6m0 : Method := { name := "values", desc := "()[Lcom/example/hashkeep/hashkeep/store/DigestAlgorithm;", sig := { parameters := [], returnType := some (.array (.object "com/example/hashkeep/hashkeep/store/DigestAlgorithm")) }, accessFlags := 9, code := some k6c0 }
def k6c1 : Code := { maxStack := 2, maxLocals := 6, code := prog_9_method_4_code, exceptionTable := #[], attributes := #[] }
def k6m1 : Method := { name := "ofHexDigits", desc := "(I)Ljava/util/Optional;", sig := { parameters := [.int], returnType := some (.object "java/util/Optional") }, accessFlags := 9, code := some k6c1 }
/-- com/example/hashkeep/hashkeep/store/DigestAlgorithm -/
def k6 : Class := { plain "com/example/hashkeep/hashkeep/store/DigestAlgorithm" (some 5) with
  accessFlags := 16433
  interfaces := #[]
  cf := some (fileOf pool6 1 #[] #[{ accessFlags := 9, nameIndex := 39, descriptorIndex := 40, attributes := #[] }, { accessFlags := 9, nameIndex := 89, descriptorIndex := 90, attributes := #[] }] 16433 20 #[] #[{ accessFlags := 16409, nameIndex := 5, descriptorIndex := 6, attributes := #[] }, { accessFlags := 16409, nameIndex := 9, descriptorIndex := 6, attributes := #[] }, { accessFlags := 18, nameIndex := 31, descriptorIndex := 32, attributes := #[] }, { accessFlags := 18, nameIndex := 35, descriptorIndex := 36, attributes := #[] }, { accessFlags := 4122, nameIndex := 12, descriptorIndex := 13, attributes := #[] }])
  fields := #[{ name := "SHA_256", type := (.object "com/example/hashkeep/hashkeep/store/DigestAlgorithm"), accessFlags := 16409, slot := 0, constantValue := 0 }, { name := "MD5", type := (.object "com/example/hashkeep/hashkeep/store/DigestAlgorithm"), accessFlags := 16409, slot := 1, constantValue := 0 }, { name := "standardName", type := (.object "java/lang/String"), accessFlags := 18, slot := 3, constantValue := 0 }, { name := "hexDigits", type := .int, accessFlags := 18, slot := 4, constantValue := 0 }, { name := "$VALUES", type := (.array (.object "com/example/hashkeep/hashkeep/store/DigestAlgorithm")), accessFlags := 4122, slot := 2, constantValue := 0 }]
  methods := #[k6m0, k6m1]
  instanceTypes := #[(.object "java/lang/String"), .int, .int, (.object "java/lang/String"), .int]
  staticTypes := #[(.object "com/example/hashkeep/hashkeep/store/DigestAlgorithm"), (.object "com/example/hashkeep/hashkeep/store/DigestAlgorithm"), (.array (.object "com/example/hashkeep/hashkeep/store/DigestAlgorithm"))]
  resolved := Array.replicate 118 none
  statics := some 0 }

def pool7 : Array CpInfo := pool [(1, .class_ 2), (0, u "java/lang/Cloneable"), (0, .class_ 4), (0, u "java/lang/Object")] 2

/-- java/lang/Cloneable -/
def k7 : Class := { plain "java/lang/Cloneable" (some 0) with
  accessFlags := 1537
  interfaces := #[]
  cf := some (fileOf pool7 1 #[] #[] 1537 3 #[] #[])
  fields := #[]
  methods := #[]
  instanceTypes := #[]
  staticTypes := #[]
  resolved := Array.replicate 7 none
  statics := none }

def pool8 : Array CpInfo := pool [(1, .fieldref 2 3), (0, .class_ 4), (0, .nameAndType 5 6), (0, u "java/util/Optional"), (0, u "EMPTY"), (0, u "Ljava/util/Optional;"), (0, .methodref 8 9), (0, .class_ 10), (0, .nameAndType 11 12), (0, u "java/lang/Object"), (0, u "<init>"), (0, u "()V"), (0, .fieldref 2 14), (0, .nameAndType 15 16), (0, u "value"), (0, u "Ljava/lang/Object;"), (5, u "(Ljava/lang/Object;)Ljava/lang/Object;"), (0, .methodref 2 24), (0, .nameAndType 11 25), (0, u "(Ljava/lang/Object;)V"), (38, u "ofNullable"), (0, u "(Ljava/lang/Object;)Ljava/util/Optional;"), (99, u "orElse")] 21

def k8c0 : Code := { maxStack := 2, maxLocals := 2, code := jdk_32_method_2_code, exceptionTable := #[], attributes := #[] }
def k8m0 : Method := { name := "<init>", desc := "(Ljava/lang/Object;)V", sig := { parameters := [(.object "java/lang/Object")], returnType := none }, accessFlags := 2, code := some k8c0 }
def k8c1 : Code := { maxStack := 3, maxLocals := 1, code := jdk_32_method_4_code, exceptionTable := #[], attributes := #[] }
def k8m1 : Method := { name := "ofNullable", desc := "(Ljava/lang/Object;)Ljava/util/Optional;", sig := { parameters := [(.object "java/lang/Object")], returnType := some (.object "java/util/Optional") }, accessFlags := 9, code := some k8c1 }
def k8c2 : Code := { maxStack := 1, maxLocals := 2, code := jdk_32_method_15_code, exceptionTable := #[], attributes := #[] }
def k8m2 : Method := { name := "orElse", desc := "(Ljava/lang/Object;)Ljava/lang/Object;", sig := { parameters := [(.object "java/lang/Object")], returnType := some (.object "java/lang/Object") }, accessFlags := 1, code := some k8c2 }
/-- java/util/Optional -/
def k8 : Class := { plain "java/util/Optional" (some 0) with
  accessFlags := 49
  interfaces := #[]
  cf := some (fileOf pool8 2 #[] #[{ accessFlags := 2, nameIndex := 11, descriptorIndex := 25, attributes := #[] }, { accessFlags := 9, nameIndex := 64, descriptorIndex := 65, attributes := #[] }, { accessFlags := 1, nameIndex := 165, descriptorIndex := 22, attributes := #[] }] 49 8 #[] #[{ accessFlags := 26, nameIndex := 5, descriptorIndex := 6, attributes := #[] }, { accessFlags := 18, nameIndex := 15, descriptorIndex := 16, attributes := #[] }])
  fields := #[{ name := "EMPTY", type := (.object "java/util/Optional"), accessFlags := 26, slot := 0, constantValue := 0 }, { name := "value", type := (.object "java/lang/Object"), accessFlags := 18, slot := 0, constantValue := 0 }]
  methods := #[k8m0, k8m1, k8m2]
  instanceTypes := #[(.object "java/lang/Object")]
  staticTypes := #[(.object "java/util/Optional")]
  resolved := Array.replicate 187 none
  statics := some 1 }

/-- the primitive byte -/
def k9 : Class := { plain "byte" none with kind := .primitive 'B', accessFlags := 0x411 }
/-- [B -/
def k10 : Class := { plain "[B" (some 0) with kind := .array 9 .byte, interfaces := #[7, 4], accessFlags := 1041 }

/-- the primitive int -/
def k11 : Class := { plain "int" none with kind := .primitive 'I', accessFlags := 0x411 }
/-- [I -/
def k12 : Class := { plain "[I" (some 0) with kind := .array 11 .int, interfaces := #[7, 4], accessFlags := 1041 }

/-- [Lcom/example/hashkeep/hashkeep/store/DigestAlgorithm; -/
def k13 : Class := { plain "[Lcom/example/hashkeep/hashkeep/store/DigestAlgorithm;" (some 0) with kind := .array 6 (.object "com/example/hashkeep/hashkeep/store/DigestAlgorithm"), interfaces := #[7, 4], accessFlags := 1041 }

def heap : Heap := #[{ cls := 6, slots := #[.ref 3, .ref 4, .ref 2], vm := .statics 6 },
  { cls := 8, slots := #[.ref 5], vm := .statics 8 },
  { cls := 13, slots := #[.ref 3, .ref 4], vm := .none },
  { cls := 6, slots := #[.null, .int 0, .int 0, .null, .int 64], vm := .none },
  { cls := 6, slots := #[.null, .int 1, .int 0, .null, .int 32], vm := .none },
  { cls := 8, slots := #[.null], vm := .none }]
def classes : Array Class := #[k0, k1, k2, k3, k4, k5, k6, k7, k8, k9, k10, k11, k12, k13]
def interned : List (Array UInt16 × Addr) := []
def slotsUsed : Nat := 17
def theMethod : MethodId := ⟨1, 1⟩
def args0 : Array Value := #[.int 5, .int 3]
def aboutOver (below : List Frame) : State where
  vm := { classes := classes, interned := interned.toArray }
  heap := heap
  slotsUsed := slotsUsed
  threads := #[{ frames := .invoking theMethod args0 :: below }]
def below0 : List Frame := [.native { method := ⟨0, 0⟩, args := #[] }]
def about1 : State := aboutOver below0
def p0 : Program := .bare "" "" ""
def e0 : Env := launch0.env 0 0 0
theorem w_frames : about1.frames = Frame.invoking theMethod args0 :: below0 := rfl
set_option maxRecDepth 65536 in
theorem w_args : argsFit about1.vm theMethod args0 = true := by decide +kernel
set_option maxRecDepth 65536 in
theorem w_heap : heapFits about1 = true := by decide +kernel
set_option maxRecDepth 65536 in
theorem w_runnable : about1.curStatus? = some .runnable := by decide +kernel
set_option maxRecDepth 65536 in
theorem w_alone : about1.alone = true := by decide +kernel
set_option maxRecDepth 65536 in
theorem w_named : about1.methodNamed? x = some theMethod := by decide +kernel
set_option maxRecDepth 65536 in
theorem w_hears : about1.hears theMethod below0 = true := by decide +kernel
set_option maxRecDepth 65536 in
theorem w_ripe : about1.ripe theMethod args0 below0 = true := by decide +kernel
theorem w_running : about1.status = .running := rfl
set_option maxRecDepth 65536 in
theorem w_room : about1.hasRoom e0.platform room_1 = true :=
  launch0.hasRoom_least _ room_1 (by decide +kernel) (by decide +kernel) (by decide +kernel) (by decide +kernel) (by decide +kernel) (by decide +kernel)
theorem allAtoms_all (ts : List Jvm.Cond) (a : Array Jvm.Value) (st : Jvm.State) : (allAtoms ts).before a st = ts.all (fun c => c.before a st) := by
  induction ts with
  | nil => rfl
  | cons c t ih =>
    show (Jvm.Cond.and c (allAtoms t)).before a st = _
    rw [Jvm.Cond.before_and, ih, List.all_cons]
def words1 : List Jvm.Cond := Jvm.Cond.code x code maxLocals ret :: tables_1
/-- a 'code' word, met by the world's own term for the bytes: nothing is compared byte by byte -/
theorem code_word {y : MethodName} {bytes : ByteArray} {mx : Nat} {rt : Option FieldType} {a : Array Value} {s : State} {m : MethodId} {meth : Method} {c : Code} (h1 : s.methodNamed? y = some m) (h2 : s.vm.method? m = some meth) (h3 : meth.code = some c) (h4 : c.code = bytes)
    (h5 : (c.maxLocals == mx && c.exceptionTable.isEmpty && decide (c.maxStack ≤ mostOperands) && decide (meth.sig.returnType = rt) && !meth.locks && decide (parseMethodDescriptor y.desc = some meth.sig)) = true) : (Jvm.Cond.code y bytes mx rt).before a s = true := by
  simp only [Bool.and_eq_true, beq_iff_eq, Bool.not_eq_true', decide_eq_true_eq] at h5
  obtain ⟨⟨⟨⟨⟨g1, g2⟩, g3⟩, g4⟩, g5⟩, g6⟩ := h5
  simp [Cond.before, Cond.holds, Cond.value, h1, h2, h3, h4, g1, g2, g3, g4, g5, g6]
def isCode : Jvm.Cond → Bool
  | .code _ _ _ _ => true
  | _ => false
theorem all_split {L : List Jvm.Cond} {P : Jvm.Cond → Bool} (h1 : L.all (fun c => isCode c || P c) = true) (h2 : ∀ c ∈ L.filter isCode, P c = true) : L.all P = true := by
  refine List.all_eq_true.mpr fun c hc => ?_
  have h := List.all_eq_true.mp h1 c hc
  rcases Bool.eq_false_or_eq_true (isCode c) with hi | hi
  · exact h2 c (List.mem_filter.mpr ⟨hc, hi⟩)
  · simpa [hi] using h
set_option maxRecDepth 65536 in
theorem w_c0 : (Jvm.Cond.code x code maxLocals ret).before args0 about1 = true := code_word (m := ⟨1, 1⟩) (meth := k1m1) (c := k1c1) (by decide +kernel) rfl rfl rfl (by decide +kernel)
set_option maxRecDepth 65536 in
theorem w_c1 : (Jvm.Cond.code ({ cls := "com/example/hashkeep/hashkeep/store/DigestAlgorithm", name := "ofHexDigits", desc := "(I)Ljava/util/Optional;" } : Jvm.MethodName) prog_9_method_4_code (6 : Nat) (Option.some (Jvm.ClassFile.FieldType.object "java/util/Optional"))).before args0 about1 = true := code_word (m := ⟨6, 1⟩) (meth := k6m1) (c := k6c1) (by decide +kernel) rfl rfl rfl (by decide +kernel)
set_option maxRecDepth 65536 in
theorem w_c2 : (Jvm.Cond.code ({ cls := "com/example/hashkeep/hashkeep/store/DigestAlgorithm", name := "values", desc := "()[Lcom/example/hashkeep/hashkeep/store/DigestAlgorithm;" } : Jvm.MethodName) prog_9_method_1_code (0 : Nat) (Option.some (Jvm.ClassFile.FieldType.array (Jvm.ClassFile.FieldType.object "com/example/hashkeep/hashkeep/store/DigestAlgorithm")))).before args0 about1 = true := code_word (m := ⟨6, 0⟩) (meth := k6m0) (c := k6c0) (by decide +kernel) rfl rfl rfl (by decide +kernel)
set_option maxRecDepth 65536 in
theorem w_c3 : (Jvm.Cond.code ({ cls := "java/util/Optional", name := "ofNullable", desc := "(Ljava/lang/Object;)Ljava/util/Optional;" } : Jvm.MethodName) jdk_32_method_4_code (1 : Nat) (Option.some (Jvm.ClassFile.FieldType.object "java/util/Optional"))).before args0 about1 = true := code_word (m := ⟨8, 1⟩) (meth := k8m1) (c := k8c1) (by decide +kernel) rfl rfl rfl (by decide +kernel)
set_option maxRecDepth 65536 in
theorem w_c4 : (Jvm.Cond.code ({ cls := "java/util/Optional", name := "orElse", desc := "(Ljava/lang/Object;)Ljava/lang/Object;" } : Jvm.MethodName) jdk_32_method_15_code (2 : Nat) (Option.some (Jvm.ClassFile.FieldType.object "java/lang/Object"))).before args0 about1 = true := code_word (m := ⟨8, 2⟩) (meth := k8m2) (c := k8c2) (by decide +kernel) rfl rfl rfl (by decide +kernel)
set_option maxRecDepth 65536 in
theorem w_c5 : (Jvm.Cond.code ({ cls := "java/util/Optional", name := "<init>", desc := "(Ljava/lang/Object;)V" } : Jvm.MethodName) jdk_32_method_2_code (2 : Nat) (Option.none : Option Jvm.ClassFile.FieldType)).before args0 about1 = true := code_word (m := ⟨8, 0⟩) (meth := k8m0) (c := k8c0) (by decide +kernel) rfl rfl rfl (by decide +kernel)
set_option maxRecDepth 65536 in
theorem w_c6 : (Jvm.Cond.code ({ cls := "java/lang/Object", name := "<init>", desc := "()V" } : Jvm.MethodName) object_method_1_code (1 : Nat) (Option.none : Option Jvm.ClassFile.FieldType)).before args0 about1 = true := code_word (m := ⟨0, 0⟩) (meth := k0m0) (c := k0c0) (by decide +kernel) rfl rfl rfl (by decide +kernel)
def codes1 : List Jvm.Cond := [Jvm.Cond.code x code maxLocals ret, Jvm.Cond.code ({ cls := "com/example/hashkeep/hashkeep/store/DigestAlgorithm", name := "ofHexDigits", desc := "(I)Ljava/util/Optional;" } : Jvm.MethodName) prog_9_method_4_code (6 : Nat) (Option.some (Jvm.ClassFile.FieldType.object "java/util/Optional")), Jvm.Cond.code ({ cls := "com/example/hashkeep/hashkeep/store/DigestAlgorithm", name := "values", desc := "()[Lcom/example/hashkeep/hashkeep/store/DigestAlgorithm;" } : Jvm.MethodName) prog_9_method_1_code (0 : Nat) (Option.some (Jvm.ClassFile.FieldType.array (Jvm.ClassFile.FieldType.object "com/example/hashkeep/hashkeep/store/DigestAlgorithm"))), Jvm.Cond.code ({ cls := "java/util/Optional", name := "ofNullable", desc := "(Ljava/lang/Object;)Ljava/util/Optional;" } : Jvm.MethodName) jdk_32_method_4_code (1 : Nat) (Option.some (Jvm.ClassFile.FieldType.object "java/util/Optional")), Jvm.Cond.code ({ cls := "java/util/Optional", name := "orElse", desc := "(Ljava/lang/Object;)Ljava/lang/Object;" } : Jvm.MethodName) jdk_32_method_15_code (2 : Nat) (Option.some (Jvm.ClassFile.FieldType.object "java/lang/Object")), Jvm.Cond.code ({ cls := "java/util/Optional", name := "<init>", desc := "(Ljava/lang/Object;)V" } : Jvm.MethodName) jdk_32_method_2_code (2 : Nat) (Option.none : Option Jvm.ClassFile.FieldType), Jvm.Cond.code ({ cls := "java/lang/Object", name := "<init>", desc := "()V" } : Jvm.MethodName) object_method_1_code (1 : Nat) (Option.none : Option Jvm.ClassFile.FieldType)]
set_option maxRecDepth 65536 in
theorem codes_eq : words1.filter isCode = codes1 := rfl
theorem w_codes : ∀ c ∈ words1.filter isCode, c.before args0 about1 = true := by
  rw [codes_eq]
  intro c hc
  simp only [codes1, List.mem_cons, List.not_mem_nil, or_false] at hc
  rcases hc with rfl | rfl | rfl | rfl | rfl | rfl | rfl
  · exact w_c0
  · exact w_c1
  · exact w_c2
  · exact w_c3
  · exact w_c4
  · exact w_c5
  · exact w_c6
set_option maxRecDepth 65536 in
theorem w_t1 : (words1.take 24).all (fun c => isCode c || c.before args0 about1) = true := by decide +kernel
set_option maxRecDepth 65536 in
theorem w_t2 : ((words1.drop 24).take 24).all (fun c => isCode c || c.before args0 about1) = true := by decide +kernel
set_option maxRecDepth 65536 in
theorem w_t3 : ((words1.drop 24).drop 24).all (fun c => isCode c || c.before args0 about1) = true := by decide +kernel
theorem w_tables : (allAtoms (Jvm.Cond.code x code maxLocals ret :: tables_1)).before args0 about1 = true := by
  rw [allAtoms_all]
  show words1.all (fun c => c.before args0 about1) = true
  refine all_split ?_ w_codes
  rw [← List.take_append_drop 24 words1, List.all_append, w_t1, ← List.take_append_drop 24 (words1.drop 24), List.all_append, w_t2, w_t3]
  rfl
set_option maxRecDepth 65536 in
theorem w_rest : rest_1_c.before args0 about1 = true := by decide +kernel
set_option maxRecDepth 65536 in
theorem w_case : (Jvm.Cond.and given_1 narrow_1).before args0 about1 = true := by decide +kernel
theorem w_applies : (headSpec (Jvm.Cond.code x code maxLocals ret :: tables_1) room_1).applies x e0.platform about1 = true :=
  (Spec.applies_iff w_frames).mpr ⟨w_running, w_runnable, w_alone, w_named, w_hears, w_ripe, w_room, w_tables⟩
theorem atStart : AtStart classFile x code maxLocals ret World_1 tables_1 room_1 Calls_1 rest_1 Pre_1 launch0 p0 e0 about1 theMethod args0 below0 :=
  ⟨lists_1, trivial, launch0.admits_env _ _ _, launch0.least_env, fairChoices_fair.cas, fairChoices_fair.clock, w_frames, w_args, w_heap, w_applies, trivial, w_rest, w_case⟩
end start1
theorem witness_1 : WitnessClaimed_1 := ⟨start1.p0, start1.e0, start1.about1, start1.theMethod, start1.args0, start1.below0, start1.atStart⟩
end Jvm.Pilot.@@N@@
