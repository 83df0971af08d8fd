import JvmDerived
import JvmDerived.Pilot.@@N@@Statement
import JvmDerived.Pilot.@@N@@Code
set_option linter.unusedVariables false
set_option linter.unusedSimpArgs false
namespace Jvm.Pilot.@@N@@
open Jvm Jvm.ClassFile Sem Op Lib Jvm.Free Jvm.Stand Jvm.LawKit Jvm.RoadKit Bundle Jvm.Pilot.@@N@@.Jvm.D
/-! the run comes from here to an end at which Q holds -/
def own_Comes (p : Program) (e : Env) (below : List Frame) (Q : Outcome → State → Prop) (T : State) (f : JFrame) : Prop :=
  ∃ s₂ o, Steps p.tables e below (T.setTop f) s₂ ∧ s₂.status = .running ∧ Ended s₂ below o ∧ Q o s₂
theorem own_lift {p : Program} {e : Env} {below : List Frame} {Q : Outcome → State → Prop} {T T' : State} {f f' : JFrame} (st : ∀ t, Steps p.tables e below (T'.setTop f') t → Steps p.tables e below (T.setTop f) t) (h : own_Comes p e below Q T' f') : own_Comes p e below Q T f := by
  obtain ⟨s₂, o, a, b⟩ := h
  exact ⟨s₂, o, st _ a, b⟩
theorem own_start {p : Program} {e : Env} {below : List Frame} {Q : Outcome → State → Prop} {T : State} {g g' : JFrame} (q : g = g') (h : own_Comes p e below Q T g') : ∃ s₂ o, Steps p.tables e below (T.setTop g) s₂ ∧ s₂.status = .running ∧ Ended s₂ below o ∧ Q o s₂ := by
  subst q; exact h
/-! what a body that writes and makes nothing leaves -/
def own_Q (val : Value) (h0 : Heap) (v : Option Value) (h : Heap) (L : List Loc) : Prop := v = some val ∧ L = [] ∧ h = h0
def own_End (val : Value) (h0 : Heap) (s : State) (R : Room) (o : Outcome) (U' : State) : Prop := ∃ v L, o = .returned v ∧ own_Q val h0 v U'.heap L ∧ FrameEnd s o U' L R.cells R.slots
section OwnRet
variable {p : Program} {l : Launch} {e : Env} {R : Room} {s : State} {m : MethodId} {args : Array Value} {below : List Frame} {meth : Method} {c : Code} {T : State}
theorem own_ret (X : Stand p l e R s m args below meth c T [] 0 0) (hx : p.tables.exec = Jvm.exec) (hlk : meth.locks = false) {pc : Nat} {Ls : Array Slot} {w : Value} {t : FieldType} {i : Instr} {rest : List Value} (hret : meth.sig.returnType = some t) (hn : narrow t w = w)
    (hi : (i = .ireturn ∧ (t = .int ∨ t = .boolean ∨ t = .byte ∨ t = .char ∨ t = .short) ∧ ∃ z, w = .int z) ∨ (i = .lreturn ∧ t = .long ∧ ∃ z, w = .long z) ∨ (i = .dreturn ∧ t = .double ∧ ∃ z, w = .double z) ∨ (i = .freturn ∧ t = .float ∧ ∃ z, w = .float z) ∨ (i = .areturn ∧ t.isReference = true ∧ w.isRef = true))
    (hd : decode c.code pc = .ok (i, 1)) {h0 : Heap} (eT : T.heap = h0) {val : Value} (hval : val = w) : own_Comes p e below (own_End val h0 s R) T (mkF m pc Ls (w :: rest)) := by
  subst hval
  obtain ⟨fs, hr, hrun, hended, hW, hsame⟩ := X.leave (v := some val) (fun h => by rw [hret] at h; cases h) hlk
  exact ⟨_, _, retOut X hx hret hn hi hd hr, hrun, hended, _, _, rfl, ⟨rfl, rfl, eT⟩, ⟨_, rfl⟩, hW, hsame.mono (Nat.zero_le _) (Nat.zero_le _)⟩
theorem own_retZ (X : Stand p l e R s m args below meth c T [] 0 0) (hx : p.tables.exec = Jvm.exec) (hlk : meth.locks = false) {pc : Nat} {Ls : Array Slot} {z : Int32} {rest : List Value} (hret : meth.sig.returnType = some .boolean) (hd : decode c.code pc = .ok (.ireturn, 1)) {h0 : Heap} (eT : T.heap = h0) (hz : z &&& 1 = z) {val : Value} (hval : val = .int z) : own_Comes p e below (own_End val h0 s R) T (mkF m pc Ls (.int z :: rest)) :=
  own_ret X hx hlk hret (by show Value.int (z &&& 1) = .int z; rw [hz]) (Or.inl ⟨rfl, by simp, z, rfl⟩) hd eT hval
theorem own_retI (X : Stand p l e R s m args below meth c T [] 0 0) (hx : p.tables.exec = Jvm.exec) (hlk : meth.locks = false) {pc : Nat} {Ls : Array Slot} {z : Int32} {rest : List Value} (hret : meth.sig.returnType = some .int) (hd : decode c.code pc = .ok (.ireturn, 1)) {h0 : Heap} (eT : T.heap = h0) {val : Value} (hval : val = .int z) : own_Comes p e below (own_End val h0 s R) T (mkF m pc Ls (.int z :: rest)) :=
  own_ret X hx hlk hret rfl (Or.inl ⟨rfl, by simp, z, rfl⟩) hd eT hval
theorem own_retA (X : Stand p l e R s m args below meth c T [] 0 0) (hx : p.tables.exec = Jvm.exec) (hlk : meth.locks = false) {pc : Nat} {Ls : Array Slot} {w : Value} {C : String} {rest : List Value} (hret : meth.sig.returnType = some (.object C)) (hd : decode c.code pc = .ok (.areturn, 1)) {h0 : Heap} (eT : T.heap = h0) (hw : w.isRef = true) {val : Value} (hval : val = w) : own_Comes p e below (own_End val h0 s R) T (mkF m pc Ls (w :: rest)) :=
  own_ret X hx hlk hret rfl (Or.inr (Or.inr (Or.inr (Or.inr ⟨rfl, rfl, hw⟩)))) hd eT hval
end OwnRet
/-! what a case says of a field of an object, as a value -/
theorem own_fld {args : Array Value} {s : State} {t : Term} {C n d : String} {a : Addr} {k : Int32} (ev : t.eval args s none [] s = some (.ref a)) (h : (Jvm.Cond.eq (.field t C n d) (.int k)).value args s none s [] = some true) : s.fieldOf? a C n d = some (.int k) := by
  obtain ⟨x, y, hx, hy, -, hk⟩ := cmp_v (Or.inl h)
  have hy2 : some (Value.int k) = some y := (Term.int_eval k).symm.trans hy
  cases hy2
  obtain ⟨z, rfl⟩ : ∃ z, x = .int z := hk
  have q : (Jvm.Cond.eq (.field t C n d) (.int k)).value args s none s [] = some (decide (z = k)) := by simp [Cond.value, hx, hy]
  obtain rfl : z = k := gotT q h
  rw [fld_at ev] at hx; exact hx
theorem d1_0 : decode prog_18_method_10_code 0 = .ok (.iload_n 0, 1) := by decide +kernel
theorem d1_1 : decode prog_18_method_10_code 1 = .ok (.ifCond .le 9, 3) := by decide +kernel
theorem d1_4 : decode prog_18_method_10_code 4 = .ok (.getstatic 7, 3) := by decide +kernel
theorem d1_7 : decode prog_18_method_10_code 7 = .ok (.goto 6, 3) := by decide +kernel
theorem d1_10 : decode prog_18_method_10_code 10 = .ok (.getstatic 13, 3) := by decide +kernel
theorem d1_13 : decode prog_18_method_10_code 13 = .ok (.areturn, 1) := by decide +kernel
theorem pn_1 : plainName "com/example/lattice_bound/latticebound/network/Direction" = true := by first | (simp [plainName, overriddenIn]; done) | decide +kernel
theorem pd_1 : parseMethodDescriptor "(I)Lcom/example/lattice_bound/latticebound/network/Direction;" = some ⟨[.int], some (.object "com/example/lattice_bound/latticebound/network/Direction")⟩ := by decide +kernel
theorem ef_1 (m : MethodId) (x0 : Int32)  : entryFrame m #[(.int x0)] 1 = mkF m 0 #[.val (.int x0)] [] := by first | (simp [entryFrame, mkF, argsToLocals, Value.category]; done) | rfl
set_option maxRecDepth 65536 in
set_option maxHeartbeats 40000000 in
theorem rm1 (l : Launch) (Z : State) (a0 : Array Value) (hw : ∀ d ∈ tables_1, d.before a0 Z = true) (ws : List Jvm.Cond) (k : Int32) (wE wW val : Addr) (h0 : Heap) (S_EAST : Sta Z h0 "com/example/lattice_bound/latticebound/network/Direction" "EAST" "Lcom/example/lattice_bound/latticebound/network/Direction;" (.ref wE)) (S_WEST : Sta Z h0 "com/example/lattice_bound/latticebound/network/Direction" "WEST" "Lcom/example/lattice_bound/latticebound/network/Direction;" (.ref wW)) (hv : val = if 0 < k then wE else wW) :
    MetFree l (⟨"com/example/lattice_bound/latticebound/network/Direction", "alongX", "(I)Lcom/example/lattice_bound/latticebound/network/Direction;"⟩ : MethodName) (head1 (Jvm.Cond.code (⟨"com/example/lattice_bound/latticebound/network/Direction", "alongX", "(I)Lcom/example/lattice_bound/latticebound/network/Direction;"⟩ : MethodName) prog_18_method_10_code 1 (some (.object "com/example/lattice_bound/latticebound/network/Direction")) :: ws) ({ frames := 0, cells := 0, slots := 0, locals := 0 } : Room)) (fun a U => a = #[(.int k)] ∧ Z.Warmed39 U.vm ∧ U.heap = h0) (fun _ _ _ _ _ => True) (fun _ U o U' => ∃ v L, o = .returned v ∧ own_Q (.ref val) h0 v U'.heap L ∧ FrameEnd U o U' L ({ frames := 0, cells := 0, slots := 0, locals := 0 } : Room).cells ({ frames := 0, cells := 0, slots := 0, locals := 0 } : Room).slots) := by
  refine MetFree.of_bodySF (plainFor_of_name pn_1) hisR ?_
  intro p e s m args below meth c s₁ Bd hml0 hP hK
  obtain ⟨rfl, hZ, hh⟩ := hP
  have hx := Bd.exec
  have hby := Bd.bytes
  have hml : c.maxLocals = 1 := hml0
  have hown : s.vm.findClass "com/example/lattice_bound/latticebound/network/Direction" = some m.cls := findClass_of_methodNamed Bd.named
  have hlk : meth.locks = false := BodyLoose.notSynchronized Bd
  have X0 : Stand p l e ({ frames := 0, cells := 0, slots := 0, locals := 0 } : Room) s m #[(.int k)] below meth c s₁ [] 0 0 := Stand.of_body Bd
  have e0 : s₁.heap = h0 := by rw [← hh, Bd.state]; rfl
  refine own_start (Q := own_End (.ref val) h0 s ({ frames := 0, cells := 0, slots := 0, locals := 0 } : Room)) (ef_1 m k) ?_
  refine own_lift (T' := s₁) (f' := (mkF m 1 #[.val (.int k)] [(.int k)])) (fun _ k => XS.iloadN X0.here hx rfl (hb hby d1_0) rfl k) ?_
  by_cases h1 : (0 : Int32) < k
  · refine own_lift (T' := s₁) (f' := (mkF m 4 #[.val (.int k)] [])) (fun _ k => XS.ifNo X0.here hx rfl (hb hby d1_1) rfl ((if0 _ _).trans (tlt h1).2.2.2) k) ?_
    obtain ⟨T105, X105, e105, st105⟩ := getS2 X0 hx hZ hown (host := "") (Or.inl (hw _ (List.mem_of_getElem? (i := 20) rfl))) Via.refl e0 S_EAST (g := (mkF m 4 #[.val (.int k)] [])) rfl (hb hby d1_4)
    refine own_lift (T' := T105) (f' := (mkF m 7 #[.val (.int k)] [(.ref wE)])) (st105) ?_
    refine own_lift (T' := T105) (f' := (mkF m 13 #[.val (.int k)] [(.ref wE)])) (fun _ k => XS.goto X105.here hx rfl (pc0 := 7) (pc' := 13) rfl (hb hby d1_7) (by decide) (by decide) k) ?_
    exact own_retA X105 hx hlk Bd.returns (hb hby d1_13) e105 rfl (by simp [hv, h1])
  · refine own_lift (T' := s₁) (f' := (mkF m 10 #[.val (.int k)] [])) (fun _ k => XS.ifYes X0.here hx rfl (pc0 := 1) (pc' := 10) rfl (hb hby d1_1) rfl ((if0 _ _).trans (flt h1).2.2.2) (by decide) (by decide) k) ?_
    obtain ⟨T106, X106, e106, st106⟩ := getS2 X0 hx hZ hown (host := "") (Or.inl (hw _ (List.mem_of_getElem? (i := 4) rfl))) Via.refl e0 S_WEST (g := (mkF m 10 #[.val (.int k)] [])) rfl (hb hby d1_10)
    refine own_lift (T' := T106) (f' := (mkF m 13 #[.val (.int k)] [(.ref wW)])) (st106) ?_
    exact own_retA X106 hx hlk Bd.returns (hb hby d1_13) e106 rfl (by simp [hv, h1])
theorem d2_0 : decode prog_18_method_6_code 0 = .ok (.aload_n 0, 1) := by decide +kernel
theorem d2_1 : decode prog_18_method_6_code 1 = .ok (.getfield 43, 3) := by decide +kernel
theorem d2_4 : decode prog_18_method_6_code 4 = .ok (.ireturn, 1) := by decide +kernel
theorem pn_2 : plainName "com/example/lattice_bound/latticebound/network/Direction" = true := by first | (simp [plainName, overriddenIn]; done) | decide +kernel
theorem pd_2 : parseMethodDescriptor "()I" = some ⟨[], some .int⟩ := by decide +kernel
theorem ef_2 (m : MethodId) (x0 : Addr)  : entryFrame m #[(.ref x0)] 1 = mkF m 0 #[.val (.ref x0)] [] := by first | (simp [entryFrame, mkF, argsToLocals, Value.category]; done) | rfl
set_option maxRecDepth 65536 in
set_option maxHeartbeats 40000000 in
theorem rm2 (l : Launch) (Z : State) (a0 : Array Value) (hw : ∀ d ∈ tables_1, d.before a0 Z = true) (ws : List Jvm.Cond) (a1 : Addr) (n : Int32) (h0 : Heap) (F_n : Fld Z h0 a1 "com/example/lattice_bound/latticebound/network/Direction" "dy" "I" (.int n)) :
    MetFree l (⟨"com/example/lattice_bound/latticebound/network/Direction", "getDy", "()I"⟩ : MethodName) (head1 (Jvm.Cond.code (⟨"com/example/lattice_bound/latticebound/network/Direction", "getDy", "()I"⟩ : MethodName) prog_18_method_6_code 1 (some .int) :: ws) ({ frames := 0, cells := 0, slots := 0, locals := 0 } : Room)) (fun a U => a = #[(.ref a1)] ∧ Z.Warmed39 U.vm ∧ U.heap = h0) (fun _ _ _ _ _ => True) (fun _ U o U' => ∃ v L, o = .returned v ∧ own_Q (.int n) h0 v U'.heap L ∧ FrameEnd U o U' L ({ frames := 0, cells := 0, slots := 0, locals := 0 } : Room).cells ({ frames := 0, cells := 0, slots := 0, locals := 0 } : Room).slots) := by
  refine MetFree.of_bodySF (plainFor_of_name pn_2) hisR ?_
  intro p e s m args below meth c s₁ Bd hml0 hP hK
  obtain ⟨rfl, hZ, hh⟩ := hP
  have hx := Bd.exec
  have hby := Bd.bytes
  have hml : c.maxLocals = 1 := hml0
  have hown : s.vm.findClass "com/example/lattice_bound/latticebound/network/Direction" = some m.cls := findClass_of_methodNamed Bd.named
  have hlk : meth.locks = false := BodyLoose.notSynchronized Bd
  have X0 : Stand p l e ({ frames := 0, cells := 0, slots := 0, locals := 0 } : Room) s m #[(.ref a1)] below meth c s₁ [] 0 0 := Stand.of_body Bd
  have e0 : s₁.heap = h0 := by rw [← hh, Bd.state]; rfl
  refine own_start (Q := own_End (.int n) h0 s ({ frames := 0, cells := 0, slots := 0, locals := 0 } : Room)) (ef_2 m a1) ?_
  refine own_lift (T' := s₁) (f' := (mkF m 1 #[.val (.ref a1)] [(.ref a1)])) (fun _ k => XS.aloadN X0.here hx rfl (hb hby d2_0) rfl rfl k) ?_
  obtain ⟨T107, X107, e107, st107⟩ := getF X0 hx hZ hown (host := "") (Or.inl (hw _ (List.mem_of_getElem? (i := 11) rfl))) Via.refl e0 F_n (g := (mkF m 1 #[.val (.ref a1)] [(.ref a1)])) rfl rfl (hb hby d2_1)
  refine own_lift (T' := T107) (f' := (mkF m 4 #[.val (.ref a1)] [(.int n)])) (st107) ?_
  exact own_retI X107 hx hlk Bd.returns (hb hby d2_4) e107 rfl
theorem d3_0 : decode prog_18_method_5_code 0 = .ok (.aload_n 0, 1) := by decide +kernel
theorem d3_1 : decode prog_18_method_5_code 1 = .ok (.getfield 39, 3) := by decide +kernel
theorem d3_4 : decode prog_18_method_5_code 4 = .ok (.ireturn, 1) := by decide +kernel
theorem pn_3 : plainName "com/example/lattice_bound/latticebound/network/Direction" = true := by first | (simp [plainName, overriddenIn]; done) | decide +kernel
theorem pd_3 : parseMethodDescriptor "()I" = some ⟨[], some .int⟩ := by decide +kernel
theorem ef_3 (m : MethodId) (x0 : Addr)  : entryFrame m #[(.ref x0)] 1 = mkF m 0 #[.val (.ref x0)] [] := by first | (simp [entryFrame, mkF, argsToLocals, Value.category]; done) | rfl
set_option maxRecDepth 65536 in
set_option maxHeartbeats 40000000 in
theorem rm3 (l : Launch) (Z : State) (a0 : Array Value) (hw : ∀ d ∈ tables_1, d.before a0 Z = true) (ws : List Jvm.Cond) (a1 : Addr) (n : Int32) (h0 : Heap) (F_n : Fld Z h0 a1 "com/example/lattice_bound/latticebound/network/Direction" "dx" "I" (.int n)) :
    MetFree l (⟨"com/example/lattice_bound/latticebound/network/Direction", "getDx", "()I"⟩ : MethodName) (head1 (Jvm.Cond.code (⟨"com/example/lattice_bound/latticebound/network/Direction", "getDx", "()I"⟩ : MethodName) prog_18_method_5_code 1 (some .int) :: ws) ({ frames := 0, cells := 0, slots := 0, locals := 0 } : Room)) (fun a U => a = #[(.ref a1)] ∧ Z.Warmed39 U.vm ∧ U.heap = h0) (fun _ _ _ _ _ => True) (fun _ U o U' => ∃ v L, o = .returned v ∧ own_Q (.int n) h0 v U'.heap L ∧ FrameEnd U o U' L ({ frames := 0, cells := 0, slots := 0, locals := 0 } : Room).cells ({ frames := 0, cells := 0, slots := 0, locals := 0 } : Room).slots) := by
  refine MetFree.of_bodySF (plainFor_of_name pn_3) hisR ?_
  intro p e s m args below meth c s₁ Bd hml0 hP hK
  obtain ⟨rfl, hZ, hh⟩ := hP
  have hx := Bd.exec
  have hby := Bd.bytes
  have hml : c.maxLocals = 1 := hml0
  have hown : s.vm.findClass "com/example/lattice_bound/latticebound/network/Direction" = some m.cls := findClass_of_methodNamed Bd.named
  have hlk : meth.locks = false := BodyLoose.notSynchronized Bd
  have X0 : Stand p l e ({ frames := 0, cells := 0, slots := 0, locals := 0 } : Room) s m #[(.ref a1)] below meth c s₁ [] 0 0 := Stand.of_body Bd
  have e0 : s₁.heap = h0 := by rw [← hh, Bd.state]; rfl
  refine own_start (Q := own_End (.int n) h0 s ({ frames := 0, cells := 0, slots := 0, locals := 0 } : Room)) (ef_3 m a1) ?_
  refine own_lift (T' := s₁) (f' := (mkF m 1 #[.val (.ref a1)] [(.ref a1)])) (fun _ k => XS.aloadN X0.here hx rfl (hb hby d3_0) rfl rfl k) ?_
  obtain ⟨T108, X108, e108, st108⟩ := getF X0 hx hZ hown (host := "") (Or.inl (hw _ (List.mem_of_getElem? (i := 18) rfl))) Via.refl e0 F_n (g := (mkF m 1 #[.val (.ref a1)] [(.ref a1)])) rfl rfl (hb hby d3_1)
  refine own_lift (T' := T108) (f' := (mkF m 4 #[.val (.ref a1)] [(.int n)])) (st108) ?_
  exact own_retI X108 hx hlk Bd.returns (hb hby d3_4) e108 rfl
theorem pn_0 : plainName "com/example/lattice_bound/latticebound/network/DirectionAlongXPinLaw" = true := by first | (simp [plainName, overriddenIn]; done) | decide +kernel
theorem pd_0 : parseMethodDescriptor "(I)Z" = some ⟨[.int], some .boolean⟩ := by decide +kernel
theorem ef_0 (m : MethodId) (x0 : Int32)  : entryFrame m #[(.int x0)] maxLocals = mkF m 0 #[.val (.int x0), .unset] [] := by first | (simp [entryFrame, mkF, argsToLocals, Value.category, maxLocals]; done) | rfl
set_option maxRecDepth 65536 in
set_option maxHeartbeats 40000000 in
theorem rm0 (l : Launch) (Z : State) (a0 : Array Value) (hw : ∀ d ∈ tables_1, d.before a0 Z = true) (ws : List Jvm.Cond) (p1 : Int32) (wE wW : Addr) (h0 : Heap) (S_EAST : Sta Z h0 "com/example/lattice_bound/latticebound/network/Direction" "EAST" "Lcom/example/lattice_bound/latticebound/network/Direction;" (.ref wE)) (S_WEST : Sta Z h0 "com/example/lattice_bound/latticebound/network/Direction" "WEST" "Lcom/example/lattice_bound/latticebound/network/Direction;" (.ref wW)) (E_E : Exa Z h0 wE "com/example/lattice_bound/latticebound/network/Direction") (E_W : Exa Z h0 wW "com/example/lattice_bound/latticebound/network/Direction") (F_wE_dx : Fld Z h0 wE "com/example/lattice_bound/latticebound/network/Direction" "dx" "I" (.int (1 : Int32))) (F_wE_dy : Fld Z h0 wE "com/example/lattice_bound/latticebound/network/Direction" "dy" "I" (.int (0 : Int32))) (F_wW_dx : Fld Z h0 wW "com/example/lattice_bound/latticebound/network/Direction" "dx" "I" (.int (-1 : Int32))) (F_wW_dy : Fld Z h0 wW "com/example/lattice_bound/latticebound/network/Direction" "dy" "I" (.int (0 : Int32))) :
    MetFree l x (head1 (Jvm.Cond.code x code maxLocals ret :: ws) room_1) (fun a U => a = #[(.int p1)] ∧ Z.Warmed39 U.vm ∧ U.heap = h0) (fun _ _ _ _ _ => True) (fun _ U o U' => ∃ v L, o = .returned v ∧ own_Q (.int 1) h0 v U'.heap L ∧ FrameEnd U o U' L room_1.cells room_1.slots) := by
  refine MetFree.of_bodySF (plainFor_of_name pn_0) hisR ?_
  intro p e s m args below meth c s₁ Bd hml0 hP hK
  obtain ⟨rfl, hZ, hh⟩ := hP
  have hx := Bd.exec
  have hby := Bd.bytes
  have hml : c.maxLocals = 2 := hml0
  have hown : s.vm.findClass "com/example/lattice_bound/latticebound/network/DirectionAlongXPinLaw" = some m.cls := findClass_of_methodNamed Bd.named
  have hlk : meth.locks = false := BodyLoose.notSynchronized Bd
  have X0 : Stand p l e room_1 s m #[(.int p1)] below meth c s₁ [] 0 0 := Stand.of_body Bd
  have e0 : s₁.heap = h0 := by rw [← hh, Bd.state]; rfl
  refine own_start (Q := own_End (.int 1) h0 s room_1) (ef_0 m p1) ?_
  by_cases hp : (0 : Int32) < p1
  · refine own_lift (T' := s₁) (f' := (mkF m 1 #[.val (.int p1), .unset] [(.int p1)])) (fun _ k => XS.iloadN X0.here hx rfl (hb hby at_0) rfl k) ?_
    obtain ⟨_, _, ⟨T109, L109, k109, n109⟩, -, Y109, ⟨Lc109, hQ109, l109, y109, z109⟩, st109⟩ := Jvm.LawKit.callS X0 hx (y := (⟨"com/example/lattice_bound/latticebound/network/Direction", "alongX", "(I)Lcom/example/lattice_bound/latticebound/network/Direction;"⟩ : MethodName)) hown (mvT hZ (hw _ (List.mem_of_getElem? (i := 0) rfl))) (mvT hZ (hw _ (List.mem_of_getElem? (i := 1) rfl))) (mvT hZ (hw _ (List.mem_of_getElem? (i := 2) rfl))) (mvT hZ (hw _ (List.mem_of_getElem? (i := 3) rfl))) (by decide) (backOf (W := 0) (rm1 l Z a0 hw [] p1 wE wW wE h0 S_EAST S_WEST (by simp [hp])) hZ (hw _ (List.mem_of_getElem? (i := 3) rfl)) (hw _ (List.mem_of_getElem? (i := 2) rfl)) (by decide) (by decide)) (g := (mkF m 1 #[.val (.int p1), .unset] [(.int p1)])) rfl (by rw [hml]; rfl) (argsL := [(.int p1)]) (rest := []) (lenOf pd_1 rfl) rfl (by show 2 * 0 + _ ≤ _; exact Nat.le_of_eq rfl) (hb hby at_1) (fun _ _ => ⟨rfl, e0, (by decide : 0 + 0 ≤ _), (by decide : 0 + 0 ≤ _)⟩)
    dsimp only [Pt.U, Pt.locs, Pt.cells, Pt.slots] at Y109 l109 y109 z109 st109 hQ109
    subst l109 y109 z109
    obtain ⟨rfl, rfl, e109⟩ := hQ109
    have X109 : Stand p l e room_1 s m #[(.int p1)] below meth c T109 [] 0 0 := Y109
    refine own_lift (T' := T109) (f' := (mkF m 4 #[.val (.int p1), .unset] [(.ref wE)])) (st109) ?_
    refine own_lift (T' := T109) (f' := (mkF m 5 #[.val (.int p1), .val (.ref wE)] [])) (fun _ k => XS.astoreN X109.here hx rfl (hb hby at_4) rfl rfl (l' := #[.val (.int p1), .val (.ref wE)]) rfl k) ?_
    refine own_lift (T' := T109) (f' := (mkF m 6 #[.val (.int p1), .val (.ref wE)] [(.ref wE)])) (fun _ k => XS.aloadN X109.here hx rfl (hb hby at_5) rfl rfl k) ?_
    refine own_lift (T' := T109) (f' := (mkF m 11 #[.val (.int p1), .val (.ref wE)] [])) (fun _ k => XS.ifnonnullYes X109.here hx rfl (pc0 := 6) (pc' := 11) rfl (hb hby at_6) rfl (by decide) (by decide) k) ?_
    refine own_lift (T' := T109) (f' := (mkF m 12 #[.val (.int p1), .val (.ref wE)] [(.ref wE)])) (fun _ k => XS.aloadN X109.here hx rfl (hb hby at_11) rfl rfl k) ?_
    obtain ⟨cq110, kq110, q110a, q110b, q110c⟩ := isOf hZ e109 E_E
    obtain ⟨_, _, ⟨T110, L110, k110, n110⟩, -, Y110, ⟨Lc110, hQ110, l110, y110, z110⟩, st110⟩ := X109.virtualBack hx (y := (⟨"com/example/lattice_bound/latticebound/network/Direction", "getDy", "()I"⟩ : MethodName)) (z := (⟨"com/example/lattice_bound/latticebound/network/Direction", "getDy", "()I"⟩ : MethodName)) hown (mvT hZ (hw _ (List.mem_of_getElem? (i := 6) rfl))) (mvT hZ (hw _ (List.mem_of_getElem? (i := 7) rfl))) (notFace_of_selects (args := #[]) (mvT hZ (hw _ (List.mem_of_getElem? (i := 9) rfl)))) (mvT hZ (hw _ (List.mem_of_getElem? (i := 9) rfl))) (mvT hZ (hw _ (List.mem_of_getElem? (i := 8) rfl))) (by decide) (backOf (W := 0) (rm2 l Z a0 hw [] wE (0 : Int32) h0 F_wE_dy) hZ (hw _ (List.mem_of_getElem? (i := 10) rfl)) (hw _ (List.mem_of_getElem? (i := 2) rfl)) (by decide) (by decide)) q110a q110c (g := (mkF m 12 #[.val (.int p1), .val (.ref wE)] [(.ref wE)])) rfl (by rw [hml]; rfl) (Steps.refl _) (argsL := []) (rest := []) (lenOf pd_2 rfl) rfl (by show 2 * 0 + _ ≤ _; exact Nat.le_of_eq rfl) (hb hby at_12) (fun _ _ => ⟨rfl, e109, (by decide : 0 + 0 ≤ _), (by decide : 0 + 0 ≤ _)⟩)
    dsimp only [Pt.U, Pt.locs, Pt.cells, Pt.slots] at Y110 l110 y110 z110 st110 hQ110
    subst l110 y110 z110
    obtain ⟨rfl, rfl, e110⟩ := hQ110
    have X110 : Stand p l e room_1 s m #[(.int p1)] below meth c T110 [] 0 0 := Y110
    refine own_lift (T' := T110) (f' := (mkF m 15 #[.val (.int p1), .val (.ref wE)] [(.int (0 : Int32))])) (fun _ k => st110.trans k) ?_
    refine own_lift (T' := T110) (f' := (mkF m 20 #[.val (.int p1), .val (.ref wE)] [])) (fun _ k => XS.ifYes X110.here hx rfl (pc0 := 15) (pc' := 20) rfl (hb hby at_15) rfl ((if0 _ _).trans (teq rfl).1) (by decide) (by decide) k) ?_
    refine own_lift (T' := T110) (f' := (mkF m 21 #[.val (.int p1), .val (.ref wE)] [(.int p1)])) (fun _ k => XS.iloadN X110.here hx rfl (hb hby at_20) rfl k) ?_
    refine own_lift (T' := T110) (f' := (mkF m 24 #[.val (.int p1), .val (.ref wE)] [])) (fun _ k => XS.ifNo X110.here hx rfl (hb hby at_21) rfl ((if0 _ _).trans (tlt hp).2.2.2) k) ?_
    refine own_lift (T' := T110) (f' := (mkF m 25 #[.val (.int p1), .val (.ref wE)] [(.ref wE)])) (fun _ k => XS.aloadN X110.here hx rfl (hb hby at_24) rfl rfl k) ?_
    obtain ⟨cq111, kq111, q111a, q111b, q111c⟩ := isOf hZ e110 E_E
    obtain ⟨_, _, ⟨T111, L111, k111, n111⟩, -, Y111, ⟨Lc111, hQ111, l111, y111, z111⟩, st111⟩ := X110.virtualBack hx (y := (⟨"com/example/lattice_bound/latticebound/network/Direction", "getDx", "()I"⟩ : MethodName)) (z := (⟨"com/example/lattice_bound/latticebound/network/Direction", "getDx", "()I"⟩ : MethodName)) hown (mvT hZ (hw _ (List.mem_of_getElem? (i := 13) rfl))) (mvT hZ (hw _ (List.mem_of_getElem? (i := 14) rfl))) (notFace_of_selects (args := #[]) (mvT hZ (hw _ (List.mem_of_getElem? (i := 16) rfl)))) (mvT hZ (hw _ (List.mem_of_getElem? (i := 16) rfl))) (mvT hZ (hw _ (List.mem_of_getElem? (i := 15) rfl))) (by decide) (backOf (W := 0) (rm3 l Z a0 hw [] wE (1 : Int32) h0 F_wE_dx) hZ (hw _ (List.mem_of_getElem? (i := 17) rfl)) (hw _ (List.mem_of_getElem? (i := 2) rfl)) (by decide) (by decide)) q111a q111c (g := (mkF m 25 #[.val (.int p1), .val (.ref wE)] [(.ref wE)])) rfl (by rw [hml]; rfl) (Steps.refl _) (argsL := []) (rest := []) (lenOf pd_3 rfl) rfl (by show 2 * 0 + _ ≤ _; exact Nat.le_of_eq rfl) (hb hby at_25) (fun _ _ => ⟨rfl, e110, (by decide : 0 + 0 ≤ _), (by decide : 0 + 0 ≤ _)⟩)
    dsimp only [Pt.U, Pt.locs, Pt.cells, Pt.slots] at Y111 l111 y111 z111 st111 hQ111
    subst l111 y111 z111
    obtain ⟨rfl, rfl, e111⟩ := hQ111
    have X111 : Stand p l e room_1 s m #[(.int p1)] below meth c T111 [] 0 0 := Y111
    refine own_lift (T' := T111) (f' := (mkF m 28 #[.val (.int p1), .val (.ref wE)] [(.int (1 : Int32))])) (fun _ k => st111.trans k) ?_
    refine own_lift (T' := T111) (f' := (mkF m 29 #[.val (.int p1), .val (.ref wE)] [(.int (1 : Int32)), (.int (1 : Int32))])) (fun _ k => XS.iconst X111.here hx rfl (hb hby at_28) k) ?_
    refine own_lift (T' := T111) (f' := (mkF m 32 #[.val (.int p1), .val (.ref wE)] [])) (fun _ k => XS.icmpNo X111.here hx rfl (hb hby at_29) rfl (teq rfl).2 k) ?_
    refine own_lift (T' := T111) (f' := (mkF m 33 #[.val (.int p1), .val (.ref wE)] [(.int (1 : Int32))])) (fun _ k => XS.iconst X111.here hx rfl (hb hby at_32) k) ?_
    refine own_lift (T' := T111) (f' := (mkF m 37 #[.val (.int p1), .val (.ref wE)] [(.int (1 : Int32))])) (fun _ k => XS.goto X111.here hx rfl (pc0 := 33) (pc' := 37) rfl (hb hby at_33) (by decide) (by decide) k) ?_
    exact own_retZ X111 hx hlk Bd.returns (hb hby at_37) e111 (by decide) rfl
  · refine own_lift (T' := s₁) (f' := (mkF m 1 #[.val (.int p1), .unset] [(.int p1)])) (fun _ k => XS.iloadN X0.here hx rfl (hb hby at_0) rfl k) ?_
    obtain ⟨_, _, ⟨T112, L112, k112, n112⟩, -, Y112, ⟨Lc112, hQ112, l112, y112, z112⟩, st112⟩ := Jvm.LawKit.callS X0 hx (y := (⟨"com/example/lattice_bound/latticebound/network/Direction", "alongX", "(I)Lcom/example/lattice_bound/latticebound/network/Direction;"⟩ : MethodName)) hown (mvT hZ (hw _ (List.mem_of_getElem? (i := 0) rfl))) (mvT hZ (hw _ (List.mem_of_getElem? (i := 1) rfl))) (mvT hZ (hw _ (List.mem_of_getElem? (i := 2) rfl))) (mvT hZ (hw _ (List.mem_of_getElem? (i := 3) rfl))) (by decide) (backOf (W := 0) (rm1 l Z a0 hw [] p1 wE wW wW h0 S_EAST S_WEST (by simp [hp])) hZ (hw _ (List.mem_of_getElem? (i := 3) rfl)) (hw _ (List.mem_of_getElem? (i := 2) rfl)) (by decide) (by decide)) (g := (mkF m 1 #[.val (.int p1), .unset] [(.int p1)])) rfl (by rw [hml]; rfl) (argsL := [(.int p1)]) (rest := []) (lenOf pd_1 rfl) rfl (by show 2 * 0 + _ ≤ _; exact Nat.le_of_eq rfl) (hb hby at_1) (fun _ _ => ⟨rfl, e0, (by decide : 0 + 0 ≤ _), (by decide : 0 + 0 ≤ _)⟩)
    dsimp only [Pt.U, Pt.locs, Pt.cells, Pt.slots] at Y112 l112 y112 z112 st112 hQ112
    subst l112 y112 z112
    obtain ⟨rfl, rfl, e112⟩ := hQ112
    have X112 : Stand p l e room_1 s m #[(.int p1)] below meth c T112 [] 0 0 := Y112
    refine own_lift (T' := T112) (f' := (mkF m 4 #[.val (.int p1), .unset] [(.ref wW)])) (st112) ?_
    refine own_lift (T' := T112) (f' := (mkF m 5 #[.val (.int p1), .val (.ref wW)] [])) (fun _ k => XS.astoreN X112.here hx rfl (hb hby at_4) rfl rfl (l' := #[.val (.int p1), .val (.ref wW)]) rfl k) ?_
    refine own_lift (T' := T112) (f' := (mkF m 6 #[.val (.int p1), .val (.ref wW)] [(.ref wW)])) (fun _ k => XS.aloadN X112.here hx rfl (hb hby at_5) rfl rfl k) ?_
    refine own_lift (T' := T112) (f' := (mkF m 11 #[.val (.int p1), .val (.ref wW)] [])) (fun _ k => XS.ifnonnullYes X112.here hx rfl (pc0 := 6) (pc' := 11) rfl (hb hby at_6) rfl (by decide) (by decide) k) ?_
    refine own_lift (T' := T112) (f' := (mkF m 12 #[.val (.int p1), .val (.ref wW)] [(.ref wW)])) (fun _ k => XS.aloadN X112.here hx rfl (hb hby at_11) rfl rfl k) ?_
    obtain ⟨cq113, kq113, q113a, q113b, q113c⟩ := isOf hZ e112 E_W
    obtain ⟨_, _, ⟨T113, L113, k113, n113⟩, -, Y113, ⟨Lc113, hQ113, l113, y113, z113⟩, st113⟩ := X112.virtualBack hx (y := (⟨"com/example/lattice_bound/latticebound/network/Direction", "getDy", "()I"⟩ : MethodName)) (z := (⟨"com/example/lattice_bound/latticebound/network/Direction", "getDy", "()I"⟩ : MethodName)) hown (mvT hZ (hw _ (List.mem_of_getElem? (i := 6) rfl))) (mvT hZ (hw _ (List.mem_of_getElem? (i := 7) rfl))) (notFace_of_selects (args := #[]) (mvT hZ (hw _ (List.mem_of_getElem? (i := 9) rfl)))) (mvT hZ (hw _ (List.mem_of_getElem? (i := 9) rfl))) (mvT hZ (hw _ (List.mem_of_getElem? (i := 8) rfl))) (by decide) (backOf (W := 0) (rm2 l Z a0 hw [] wW (0 : Int32) h0 F_wW_dy) hZ (hw _ (List.mem_of_getElem? (i := 10) rfl)) (hw _ (List.mem_of_getElem? (i := 2) rfl)) (by decide) (by decide)) q113a q113c (g := (mkF m 12 #[.val (.int p1), .val (.ref wW)] [(.ref wW)])) rfl (by rw [hml]; rfl) (Steps.refl _) (argsL := []) (rest := []) (lenOf pd_2 rfl) rfl (by show 2 * 0 + _ ≤ _; exact Nat.le_of_eq rfl) (hb hby at_12) (fun _ _ => ⟨rfl, e112, (by decide : 0 + 0 ≤ _), (by decide : 0 + 0 ≤ _)⟩)
    dsimp only [Pt.U, Pt.locs, Pt.cells, Pt.slots] at Y113 l113 y113 z113 st113 hQ113
    subst l113 y113 z113
    obtain ⟨rfl, rfl, e113⟩ := hQ113
    have X113 : Stand p l e room_1 s m #[(.int p1)] below meth c T113 [] 0 0 := Y113
    refine own_lift (T' := T113) (f' := (mkF m 15 #[.val (.int p1), .val (.ref wW)] [(.int (0 : Int32))])) (fun _ k => st113.trans k) ?_
    refine own_lift (T' := T113) (f' := (mkF m 20 #[.val (.int p1), .val (.ref wW)] [])) (fun _ k => XS.ifYes X113.here hx rfl (pc0 := 15) (pc' := 20) rfl (hb hby at_15) rfl ((if0 _ _).trans (teq rfl).1) (by decide) (by decide) k) ?_
    refine own_lift (T' := T113) (f' := (mkF m 21 #[.val (.int p1), .val (.ref wW)] [(.int p1)])) (fun _ k => XS.iloadN X113.here hx rfl (hb hby at_20) rfl k) ?_
    refine own_lift (T' := T113) (f' := (mkF m 38 #[.val (.int p1), .val (.ref wW)] [])) (fun _ k => XS.ifYes X113.here hx rfl (pc0 := 21) (pc' := 38) rfl (hb hby at_21) rfl ((if0 _ _).trans (flt hp).2.2.2) (by decide) (by decide) k) ?_
    refine own_lift (T' := T113) (f' := (mkF m 39 #[.val (.int p1), .val (.ref wW)] [(.ref wW)])) (fun _ k => XS.aloadN X113.here hx rfl (hb hby at_38) rfl rfl k) ?_
    obtain ⟨cq114, kq114, q114a, q114b, q114c⟩ := isOf hZ e113 E_W
    obtain ⟨_, _, ⟨T114, L114, k114, n114⟩, -, Y114, ⟨Lc114, hQ114, l114, y114, z114⟩, st114⟩ := X113.virtualBack hx (y := (⟨"com/example/lattice_bound/latticebound/network/Direction", "getDx", "()I"⟩ : MethodName)) (z := (⟨"com/example/lattice_bound/latticebound/network/Direction", "getDx", "()I"⟩ : MethodName)) hown (mvT hZ (hw _ (List.mem_of_getElem? (i := 13) rfl))) (mvT hZ (hw _ (List.mem_of_getElem? (i := 14) rfl))) (notFace_of_selects (args := #[]) (mvT hZ (hw _ (List.mem_of_getElem? (i := 16) rfl)))) (mvT hZ (hw _ (List.mem_of_getElem? (i := 16) rfl))) (mvT hZ (hw _ (List.mem_of_getElem? (i := 15) rfl))) (by decide) (backOf (W := 0) (rm3 l Z a0 hw [] wW (-1 : Int32) h0 F_wW_dx) hZ (hw _ (List.mem_of_getElem? (i := 17) rfl)) (hw _ (List.mem_of_getElem? (i := 2) rfl)) (by decide) (by decide)) q114a q114c (g := (mkF m 39 #[.val (.int p1), .val (.ref wW)] [(.ref wW)])) rfl (by rw [hml]; rfl) (Steps.refl _) (argsL := []) (rest := []) (lenOf pd_3 rfl) rfl (by show 2 * 0 + _ ≤ _; exact Nat.le_of_eq rfl) (hb hby at_39) (fun _ _ => ⟨rfl, e113, (by decide : 0 + 0 ≤ _), (by decide : 0 + 0 ≤ _)⟩)
    dsimp only [Pt.U, Pt.locs, Pt.cells, Pt.slots] at Y114 l114 y114 z114 st114 hQ114
    subst l114 y114 z114
    obtain ⟨rfl, rfl, e114⟩ := hQ114
    have X114 : Stand p l e room_1 s m #[(.int p1)] below meth c T114 [] 0 0 := Y114
    refine own_lift (T' := T114) (f' := (mkF m 42 #[.val (.int p1), .val (.ref wW)] [(.int (-1 : Int32))])) (fun _ k => st114.trans k) ?_
    refine own_lift (T' := T114) (f' := (mkF m 43 #[.val (.int p1), .val (.ref wW)] [(.int ((-1) : Int32)), (.int (-1 : Int32))])) (fun _ k => XS.iconst X114.here hx rfl (hb hby at_42) k) ?_
    refine own_lift (T' := T114) (f' := (mkF m 46 #[.val (.int p1), .val (.ref wW)] [])) (fun _ k => XS.icmpNo X114.here hx rfl (hb hby at_43) rfl (teq rfl).2 k) ?_
    refine own_lift (T' := T114) (f' := (mkF m 47 #[.val (.int p1), .val (.ref wW)] [(.int (1 : Int32))])) (fun _ k => XS.iconst X114.here hx rfl (hb hby at_46) k) ?_
    refine own_lift (T' := T114) (f' := (mkF m 51 #[.val (.int p1), .val (.ref wW)] [(.int (1 : Int32))])) (fun _ k => XS.goto X114.here hx rfl (pc0 := 47) (pc' := 51) rfl (hb hby at_47) (by decide) (by decide) k) ?_
    exact own_retZ X114 hx hlk Bd.returns (hb hby at_51) e114 (by decide) rfl
set_option maxRecDepth 65536 in
set_option maxHeartbeats 40000000 in
theorem comes_1 {Post : Tables → Env → Array Value → State → Outcome → State → Prop} (hpost : ∀ tb e args s v u, (limb_1_1.after args s (.returned v) u = true ∧ limb_1_2.after args s (.returned v) u = true ∧ True) → FrameEnd s (.returned v) u (Jvm.fieldLocs frame_1_writes args s ++ Jvm.arrayLocs frame_1_arrays args s ++ Jvm.staticLocs frame_1_statics s) 0 0 → Post tb e args s (.returned v) u) :
    ArmFor flags0 classFile x code maxLocals ret World_1 tables_1 room_1 Calls_1 rest_1 Pre_1 Post := by
  intro l hfl _ _ p e ha hc hk s m args below hf hA hF happ hP
  obtain ⟨hcalls, hrest, hpre⟩ := hP
  obtain ⟨-, -, -, hnamed, -, -, -, hat⟩ := (Spec.applies_iff hf).mp happ
  obtain ⟨hg, hn⟩ := and_e (Cond.before_iff.mp (show (Jvm.Cond.and given_1 narrow_1).before args s = true from hpre))
  obtain ⟨g0, hg⟩ := and_e hg
  obtain ⟨w0, rfl⟩ : ∃ w0 : Value, args = #[w0] := by
    have hs : args.size = 1 := by simpa [Cond.value, given_1] using g0
    obtain ⟨L⟩ := args
    match L, hs with
    | [w0], _ => exact ⟨w0, rfl⟩
  have hw := fun d (hd : d ∈ tables_1) => atoms_spec (ws := Jvm.Cond.code x code maxLocals ret :: tables_1) hat d (List.mem_cons_of_mem _ hd)
  obtain ⟨i0, ei0⟩ := is_v hg
  obtain rfl : w0 = (.int i0) := Option.some.inj ei0
  obtain ⟨c0, hn⟩ := and_e hn
  obtain ⟨c1, hn⟩ := and_e hn
  obtain ⟨c2, hn⟩ := and_e hn
  obtain ⟨c3, hn⟩ := and_e hn
  obtain ⟨c4, hn⟩ := and_e hn
  have c5 := hn
  obtain ⟨a_WEST, ev_WEST⟩ := exa_v c0
  have S_WEST : Sta s s.heap "com/example/lattice_bound/latticebound/network/Direction" "WEST" "Lcom/example/lattice_bound/latticebound/network/Direction;" (.ref a_WEST) := Sta.start ev_WEST (Or.inr ⟨(hw _ (List.mem_of_getElem? (i := 2) rfl)), (hw _ (List.mem_of_getElem? (i := 5) rfl))⟩)
  have E_WEST : Exa s s.heap a_WEST "com/example/lattice_bound/latticebound/network/Direction" := Exa.start ev_WEST c0
  obtain ⟨a_EAST, ev_EAST⟩ := exa_v c3
  have S_EAST : Sta s s.heap "com/example/lattice_bound/latticebound/network/Direction" "EAST" "Lcom/example/lattice_bound/latticebound/network/Direction;" (.ref a_EAST) := Sta.start ev_EAST (Or.inr ⟨(hw _ (List.mem_of_getElem? (i := 2) rfl)), (hw _ (List.mem_of_getElem? (i := 21) rfl))⟩)
  have E_EAST : Exa s s.heap a_EAST "com/example/lattice_bound/latticebound/network/Direction" := Exa.start ev_EAST c3
  have F_WEST_dy : Fld s s.heap a_WEST "com/example/lattice_bound/latticebound/network/Direction" "dy" "I" (.int (0 : Int32)) := Fld.start (own_fld ev_WEST c1)
  have F_WEST_dx : Fld s s.heap a_WEST "com/example/lattice_bound/latticebound/network/Direction" "dx" "I" (.int (-1 : Int32)) := Fld.start (own_fld ev_WEST c2)
  have F_EAST_dy : Fld s s.heap a_EAST "com/example/lattice_bound/latticebound/network/Direction" "dy" "I" (.int (0 : Int32)) := Fld.start (own_fld ev_EAST c4)
  have F_EAST_dx : Fld s s.heap a_EAST "com/example/lattice_bound/latticebound/network/Direction" "dx" "I" (.int (1 : Int32)) := Fld.start (own_fld ev_EAST c5)
  obtain ⟨n, o, h1, h2, h3, _, L, rfl, ⟨rfl, rfl, -⟩, hq⟩ := rm0 l s _ hw tables_1 i0 a_EAST a_WEST s.heap S_EAST S_WEST E_EAST E_WEST F_EAST_dx F_EAST_dy F_WEST_dx F_WEST_dy p e ha hc hk s m _ below hf ((Spec.applies_iff_loose hf).mp happ).1 ⟨rfl, State.Warmed39.refl s, rfl⟩ trivial
  refine ⟨n, _, h1, h2, h3, hpost _ _ _ _ _ _ ⟨Cond.after_iff.mpr rfl, Cond.after_iff.mpr (eq_i res_at (Term.int_eval (1)) rfl), trivial⟩ ⟨hq.1, hq.2.1, (hq.2.2.sift fun y hy => Or.inr (Fr.nil s.heap.size y hy)).mono (by decide) (by decide)⟩⟩
theorem main_1_1 : Claimed_1_1 := comes_1 fun _ _ _ _ _ _ h hF => ⟨h.1, hF⟩
theorem main_1_2 : Claimed_1_2 := comes_1 fun _ _ _ _ _ _ h hF => ⟨h.2.1, hF⟩
end Jvm.Pilot.@@N@@
namespace Jvm.Pilot.@@N@@
open Jvm Jvm.ClassFile Sem Op Lib Jvm.Free Jvm.Stand Jvm.Pilot.@@N@@.Jvm.D
/-! MADE BY PROGRAM (witnessworld.py) out of the Statement's table words and the real class files: 10 classes; the members and pool entries that the words name. The judged class is class 1, her method 1. -/
namespace start1
open Jvm.ClassFile
def u (s : String) : CpInfo := .utf8 (stringToUtf16 s)
/-- a pool by its gaps: so many unusable entries, then the entry; so many at the end -/
def gap : Nat → List CpInfo → List CpInfo
  | 0, r => r
  | n + 1, r => .unusable :: gap n r
def poolList (es : List (Nat × CpInfo)) (last : Nat) : List CpInfo := es.foldr (fun e r => gap e.1 (e.2 :: r)) (gap last [])
def pool (es : List (Nat × CpInfo)) (last : Nat) : Array CpInfo := ⟨poolList es last⟩
def fileOf (pool : Array CpInfo) (this : Nat) (attrs : Array Attribute := #[]) (ms : Array MethodInfo := #[]) (fl : Nat := 33) (sup : Nat := 0) (ifs : Array Nat := #[]) (fds : Array FieldInfo := #[]) : ClassFile where
  minorVersion := 0
  majorVersion := 65
  constantPool := pool
  accessFlags := fl
  thisClass := this
  superClass := sup
  interfaces := ifs
  fields := fds
  methods := ms
  attributes := attrs
def plain (name : String) (sup : Option ClassId) : Class where
  name := name
  kind := .ordinary
  loader := none
  accessFlags := 33
  super := sup
  interfaces := #[]
  cf := none
  fields := #[]
  methods := #[]
  instanceTypes := #[]
  staticTypes := #[]
  resolved := #[]
  callSites := []
  init := .initialized
  statics := none
  mirror := none

def pool0 : Array CpInfo := pool [(5, u "<init>"), (0, u "()V"), (1, .class_ 10), (1, u "java/lang/Object")] 113

def k0m0 : Method := { name := "<init>", desc := "()V", sig := { parameters := [], returnType := none }, accessFlags := 1, code := none }
/-- java/lang/Object -/
def k0 : Class := { plain "java/lang/Object" none with
  accessFlags := 33
  interfaces := #[]
  cf := some (fileOf pool0 8 #[] #[{ accessFlags := 1, nameIndex := 5, descriptorIndex := 6, attributes := #[] }] 33 0 #[] #[])
  fields := #[]
  methods := #[k0m0]
  instanceTypes := #[]
  staticTypes := #[]
  resolved := Array.replicate 124 none
  statics := none }

def pool1 : Array CpInfo := pool [(2, .class_ 4), (1, u "java/lang/Object"), (0, u "<init>"), (0, u "()V"), (0, .methodref 8 9), (0, .class_ 10), (0, .nameAndType 11 12), (0, u "com/example/lattice_bound/latticebound/network/Direction"), (0, u "alongX"), (0, u "(I)Lcom/example/lattice_bound/latticebound/network/Direction;"), (0, .methodref 8 14), (0, .nameAndType 15 16), (0, u "getDy"), (0, u "()I"), (0, .methodref 8 18), (0, .nameAndType 19 16), (0, u "getDx"), (0, .class_ 21), (0, u "com/example/lattice_bound/latticebound/network/DirectionAlongXPinLaw"), (2, u "law"), (0, u "(I)Z")] 3

def k1m0 : Method := { name := "<init>", desc := "()V", sig := { parameters := [], returnType := none }, accessFlags := 2, code := none }
def k1c1 : Code := { maxStack := 2, maxLocals := 2, code := code, exceptionTable := #[], attributes := #[] }
def k1m1 : Method := { name := "law", desc := "(I)Z", sig := { parameters := [.int], returnType := some .boolean }, accessFlags := 9, code := some k1c1 }
/-- com/example/lattice_bound/latticebound/network/DirectionAlongXPinLaw -/
def k1 : Class := { plain "com/example/lattice_bound/latticebound/network/DirectionAlongXPinLaw" (some 0) with
  accessFlags := 49
  interfaces := #[]
  cf := some (fileOf pool1 20 #[] #[{ accessFlags := 2, nameIndex := 5, descriptorIndex := 6, attributes := #[] }, { accessFlags := 9, nameIndex := 24, descriptorIndex := 25, attributes := #[] }] 49 2 #[] #[])
  fields := #[]
  methods := #[k1m0, k1m1]
  instanceTypes := #[]
  staticTypes := #[]
  resolved := Array.replicate 29 none
  statics := none }

def pool2 : Array CpInfo := pool [(1, .class_ 2), (0, u "java/lang/constant/Constable"), (0, .class_ 4), (0, u "java/lang/Object")] 6

/-- java/lang/constant/Constable -/
def k2 : Class := { plain "java/lang/constant/Constable" (some 0) with
  accessFlags := 1537
  interfaces := #[]
  cf := some (fileOf pool2 1 #[] #[] 1537 3 #[] #[])
  fields := #[]
  methods := #[]
  instanceTypes := #[]
  staticTypes := #[]
  resolved := Array.replicate 11 none
  statics := none }

def pool3 : Array CpInfo := pool [(1, .class_ 2), (0, u "java/lang/Comparable"), (0, .class_ 4), (0, u "java/lang/Object")] 7

/-- java/lang/Comparable -/
def k3 : Class := { plain "java/lang/Comparable" (some 0) with
  accessFlags := 1537
  interfaces := #[]
  cf := some (fileOf pool3 1 #[] #[] 1537 3 #[] #[])
  fields := #[]
  methods := #[]
  instanceTypes := #[]
  staticTypes := #[]
  resolved := Array.replicate 12 none
  statics := none }

def pool4 : Array CpInfo := pool [(1, .class_ 2), (0, u "java/io/Serializable"), (0, .class_ 4), (0, u "java/lang/Object")] 2

/-- java/io/Serializable -/
def k4 : Class := { plain "java/io/Serializable" (some 0) with
  accessFlags := 1537
  interfaces := #[]
  cf := some (fileOf pool4 1 #[] #[] 1537 3 #[] #[])
  fields := #[]
  methods := #[]
  instanceTypes := #[]
  staticTypes := #[]
  resolved := Array.replicate 7 none
  statics := none }

def pool5 : Array CpInfo := pool [(2, .class_ 4), (1, u "java/lang/Enum"), (0, u "name"), (0, u "Ljava/lang/String;"), (2, u "ordinal"), (0, u "I"), (1, .class_ 14), (1, u "java/lang/Object"), (4, u "hash"), (86, .class_ 108), (1, u "java/lang/Enum$EnumDesc"), (2, .class_ 112), (0, u "java/lang/constant/Constable"), (0, .class_ 114), (0, u "java/lang/Comparable"), (0, .class_ 116), (0, u "java/io/Serializable")] 87

/-- java/lang/Enum -/
def k5 : Class := { plain "java/lang/Enum" (some 0) with
  accessFlags := 1057
  interfaces := #[2, 3, 4]
  cf := some (fileOf pool5 2 #[.nestMembers #[106]] #[] 1057 12 #[111, 113, 115] #[{ accessFlags := 18, nameIndex := 5, descriptorIndex := 6, attributes := #[] }, { accessFlags := 18, nameIndex := 9, descriptorIndex := 10, attributes := #[] }, { accessFlags := 2, nameIndex := 19, descriptorIndex := 10, attributes := #[] }])
  fields := #[{ name := "name", type := (.object "java/lang/String"), accessFlags := 18, slot := 0, constantValue := 0 }, { name := "ordinal", type := .int, accessFlags := 18, slot := 1, constantValue := 0 }, { name := "hash", type := .int, accessFlags := 2, slot := 2, constantValue := 0 }]
  methods := #[]
  instanceTypes := #[(.object "java/lang/String"), .int, .int]
  staticTypes := #[]
  resolved := Array.replicate 204 none
  statics := none }

def pool6 : Array CpInfo := pool [(1, .class_ 2), (0, u "com/example/lattice_bound/latticebound/network/Direction"), (2, u "NORTH"), (0, u "Lcom/example/lattice_bound/latticebound/network/Direction;"), (0, .fieldref 1 8), (0, .nameAndType 9 6), (0, u "EAST"), (2, u "SOUTH"), (0, .fieldref 1 14), (0, .nameAndType 15 6), (0, u "WEST"), (2, u "$VALUES"), (0, u "[Lcom/example/lattice_bound/latticebound/network/Direction;"), (6, .class_ 28), (1, u "java/lang/Enum"), (8, u "letter"), (0, u "Ljava/lang/String;"), (0, .fieldref 1 40), (0, .nameAndType 41 42), (0, u "dx"), (0, u "I"), (0, .fieldref 1 44), (0, .nameAndType 45 42), (0, u "dy"), (2, u "CLOCKWISE"), (3, u "()I"), (30, u "getDx"), (0, u "getDy"), (4, u "alongX"), (0, u "(I)Lcom/example/lattice_bound/latticebound/network/Direction;")] 7

def k6c0 : Code := { maxStack := 1, maxLocals := 1, code := prog_18_method_5_code, exceptionTable := #[], attributes := #[] }
def k6m0 : Method := { name := "getDx", desc := "()I", sig := { parameters := [], returnType := some .int }, accessFlags := 1, code := some k6c0 }
def k6c1 : Code := { maxStack := 1, maxLocals := 1, code := prog_18_method_6_code, exceptionTable := #[], attributes := #[] }
def k6m1 : Method := { name := "getDy", desc := "()I", sig := { parameters := [], returnType := some .int }, accessFlags := 1, code := some k6c1 }
def k6c2 : Code := { maxStack := 1, maxLocals := 1, code := prog_18_method_10_code, exceptionTable := #[], attributes := #[] }
def k6m2 : Method := { name := "alongX", desc := "(I)Lcom/example/lattice_bound/latticebound/network/Direction;", sig := { parameters := [.int], returnType := some (.object "com/example/lattice_bound/latticebound/network/Direction") }, accessFlags := 8, code := some k6c2 }
/-- com/example/lattice_bound/latticebound/network/Direction -/
def k6 : Class := { plain "com/example/lattice_bound/latticebound/network/Direction" (some 5) with
  accessFlags := 16433
  interfaces := #[]
  cf := some (fileOf pool6 1 #[] #[{ accessFlags := 1, nameIndex := 83, descriptorIndex := 52, attributes := #[] }, { accessFlags := 1, nameIndex := 84, descriptorIndex := 52, attributes := #[] }, { accessFlags := 8, nameIndex := 89, descriptorIndex := 90, attributes := #[] }] 16433 26 #[] #[{ accessFlags := 16409, nameIndex := 5, descriptorIndex := 6, attributes := #[] }, { accessFlags := 16409, nameIndex := 9, descriptorIndex := 6, attributes := #[] }, { accessFlags := 16409, nameIndex := 12, descriptorIndex := 6, attributes := #[] }, { accessFlags := 16409, nameIndex := 15, descriptorIndex := 6, attributes := #[] }, { accessFlags := 26, nameIndex := 48, descriptorIndex := 19, attributes := #[] }, { accessFlags := 18, nameIndex := 37, descriptorIndex := 38, attributes := #[] }, { accessFlags := 18, nameIndex := 41, descriptorIndex := 42, attributes := #[] }, { accessFlags := 18, nameIndex := 45, descriptorIndex := 42, attributes := #[] }, { accessFlags := 4122, nameIndex := 18, descriptorIndex := 19, attributes := #[] }])
  fields := #[{ name := "NORTH", type := (.object "com/example/lattice_bound/latticebound/network/Direction"), accessFlags := 16409, slot := 0, constantValue := 0 }, { name := "EAST", type := (.object "com/example/lattice_bound/latticebound/network/Direction"), accessFlags := 16409, slot := 1, constantValue := 0 }, { name := "SOUTH", type := (.object "com/example/lattice_bound/latticebound/network/Direction"), accessFlags := 16409, slot := 2, constantValue := 0 }, { name := "WEST", type := (.object "com/example/lattice_bound/latticebound/network/Direction"), accessFlags := 16409, slot := 3, constantValue := 0 }, { name := "CLOCKWISE", type := (.array (.object "com/example/lattice_bound/latticebound/network/Direction")), accessFlags := 26, slot := 4, constantValue := 0 }, { name := "letter", type := (.object "java/lang/String"), accessFlags := 18, slot := 3, constantValue := 0 }, { name := "dx", type := .int, accessFlags := 18, slot := 4, constantValue := 0 }, { name := "dy", type := .int, accessFlags := 18, slot := 5, constantValue := 0 }, { name := "$VALUES", type := (.array (.object "com/example/lattice_bound/latticebound/network/Direction")), accessFlags := 4122, slot := 5, constantValue := 0 }]
  methods := #[k6m0, k6m1, k6m2]
  instanceTypes := #[(.object "java/lang/String"), .int, .int, (.object "java/lang/String"), .int, .int]
  staticTypes := #[(.object "com/example/lattice_bound/latticebound/network/Direction"), (.object "com/example/lattice_bound/latticebound/network/Direction"), (.object "com/example/lattice_bound/latticebound/network/Direction"), (.object "com/example/lattice_bound/latticebound/network/Direction"), (.array (.object "com/example/lattice_bound/latticebound/network/Direction")), (.array (.object "com/example/lattice_bound/latticebound/network/Direction"))]
  resolved := Array.replicate 98 none
  statics := some 0 }

def pool7 : Array CpInfo := pool [(1, u "java/lang/Cloneable"), (0, .class_ 1), (0, u "java/lang/Object"), (0, .class_ 3)] 3

/-- java/lang/Cloneable -/
def k7 : Class := { plain "java/lang/Cloneable" (some 0) with
  accessFlags := 1537
  interfaces := #[]
  cf := some (fileOf pool7 2 #[] #[] 1537 4 #[] #[])
  fields := #[]
  methods := #[]
  instanceTypes := #[]
  staticTypes := #[]
  resolved := Array.replicate 8 none
  statics := none }

/-- the primitive byte -/
def k8 : Class := { plain "byte" none with kind := .primitive 'B', accessFlags := 0x411 }
/-- [B -/
def k9 : Class := { plain "[B" (some 0) with kind := .array 8 .byte, interfaces := #[7, 4], accessFlags := 1041 }

def heap : Heap := #[{ cls := 6, slots := #[.null, .ref 1, .null, .ref 2, .null, .null], vm := .statics 6 },
  { cls := 6, slots := #[.null, .int 1, .int 0, .null, .int 1, .int 0], vm := .none },
  { cls := 6, slots := #[.null, .int 3, .int 0, .null, .int (-1), .int 0], vm := .none }]
def classes : Array Class := #[k0, k1, k2, k3, k4, k5, k6, k7, k8, k9]
def interned : List (Array UInt16 × Addr) := []
def slotsUsed : Nat := 18
def theMethod : MethodId := ⟨1, 1⟩
def args0 : Array Value := #[.int 5]
def aboutOver (below : List Frame) : State where
  vm := { classes := classes, interned := interned.toArray }
  heap := heap
  slotsUsed := slotsUsed
  threads := #[{ frames := .invoking theMethod args0 :: below }]
def below0 : List Frame := [.native { method := ⟨0, 0⟩, args := #[] }]
def about1 : State := aboutOver below0
def p0 : Program := .bare "" "" ""
def e0 : Env := launch0.env 0 0 0
theorem w_frames : about1.frames = Frame.invoking theMethod args0 :: below0 := rfl
set_option maxRecDepth 65536 in
theorem w_args : argsFit about1.vm theMethod args0 = true := by decide +kernel
set_option maxRecDepth 65536 in
theorem w_heap : heapFits about1 = true := by decide +kernel
set_option maxRecDepth 65536 in
theorem w_runnable : about1.curStatus? = some .runnable := by decide +kernel
set_option maxRecDepth 65536 in
theorem w_alone : about1.alone = true := by decide +kernel
set_option maxRecDepth 65536 in
theorem w_named : about1.methodNamed? x = some theMethod := by decide +kernel
set_option maxRecDepth 65536 in
theorem w_hears : about1.hears theMethod below0 = true := by decide +kernel
set_option maxRecDepth 65536 in
theorem w_ripe : about1.ripe theMethod args0 below0 = true := by decide +kernel
theorem w_running : about1.status = .running := rfl
set_option maxRecDepth 65536 in
theorem w_room : about1.hasRoom e0.platform room_1 = true :=
  launch0.hasRoom_least _ room_1 (by decide +kernel) (by decide +kernel) (by decide +kernel) (by decide +kernel) (by decide +kernel) (by decide +kernel)
theorem allAtoms_all (ts : List Jvm.Cond) (a : Array Jvm.Value) (st : Jvm.State) : (allAtoms ts).before a st = ts.all (fun c => c.before a st) := by
  induction ts with
  | nil => rfl
  | cons c t ih =>
    show (Jvm.Cond.and c (allAtoms t)).before a st = _
    rw [Jvm.Cond.before_and, ih, List.all_cons]
def words1 : List Jvm.Cond := Jvm.Cond.code x code maxLocals ret :: tables_1
/-- a 'code' word, met by the world's own term for the bytes: nothing is compared byte by byte -/
theorem code_word {y : MethodName} {bytes : ByteArray} {mx : Nat} {rt : Option FieldType} {a : Array Value} {s : State} {m : MethodId} {meth : Method} {c : Code} (h1 : s.methodNamed? y = some m) (h2 : s.vm.method? m = some meth) (h3 : meth.code = some c) (h4 : c.code = bytes)
    (h5 : (c.maxLocals == mx && c.exceptionTable.isEmpty && decide (c.maxStack ≤ mostOperands) && decide (meth.sig.returnType = rt) && !meth.locks && decide (parseMethodDescriptor y.desc = some meth.sig)) = true) : (Jvm.Cond.code y bytes mx rt).before a s = true := by
  simp only [Bool.and_eq_true, beq_iff_eq, Bool.not_eq_true', decide_eq_true_eq] at h5
  obtain ⟨⟨⟨⟨⟨g1, g2⟩, g3⟩, g4⟩, g5⟩, g6⟩ := h5
  simp [Cond.before, Cond.holds, Cond.value, h1, h2, h3, h4, g1, g2, g3, g4, g5, g6]
def isCode : Jvm.Cond → Bool
  | .code _ _ _ _ => true
  | _ => false
theorem all_split {L : List Jvm.Cond} {P : Jvm.Cond → Bool} (h1 : L.all (fun c => isCode c || P c) = true) (h2 : ∀ c ∈ L.filter isCode, P c = true) : L.all P = true := by
  refine List.all_eq_true.mpr fun c hc => ?_
  have h := List.all_eq_true.mp h1 c hc
  rcases Bool.eq_false_or_eq_true (isCode c) with hi | hi
  · exact h2 c (List.mem_filter.mpr ⟨hc, hi⟩)
  · simpa [hi] using h
set_option maxRecDepth 65536 in
theorem w_c0 : (Jvm.Cond.code x code maxLocals ret).before args0 about1 = true := code_word (m := ⟨1, 1⟩) (meth := k1m1) (c := k1c1) (by decide +kernel) rfl rfl rfl (by decide +kernel)
set_option maxRecDepth 65536 in
theorem w_c1 : (Jvm.Cond.code ({ cls := "com/example/lattice_bound/latticebound/network/Direction", name := "alongX", desc := "(I)Lcom/example/lattice_bound/latticebound/network/Direction;" } : Jvm.MethodName) prog_18_method_10_code (1 : Nat) (Option.some (Jvm.ClassFile.FieldType.object "com/example/lattice_bound/latticebound/network/Direction"))).before args0 about1 = true := code_word (m := ⟨6, 2⟩) (meth := k6m2) (c := k6c2) (by decide +kernel) rfl rfl rfl (by decide +kernel)
set_option maxRecDepth 65536 in
theorem w_c2 : (Jvm.Cond.code ({ cls := "com/example/lattice_bound/latticebound/network/Direction", name := "getDy", desc := "()I" } : Jvm.MethodName) prog_18_method_6_code (1 : Nat) (Option.some Jvm.ClassFile.FieldType.int)).before args0 about1 = true := code_word (m := ⟨6, 1⟩) (meth := k6m1) (c := k6c1) (by decide +kernel) rfl rfl rfl (by decide +kernel)
set_option maxRecDepth 65536 in
theorem w_c3 : (Jvm.Cond.code ({ cls := "com/example/lattice_bound/latticebound/network/Direction", name := "getDx", desc := "()I" } : Jvm.MethodName) prog_18_method_5_code (1 : Nat) (Option.some Jvm.ClassFile.FieldType.int)).before args0 about1 = true := code_word (m := ⟨6, 0⟩) (meth := k6m0) (c := k6c0) (by decide +kernel) rfl rfl rfl (by decide +kernel)
def codes1 : List Jvm.Cond := [Jvm.Cond.code x code maxLocals ret, Jvm.Cond.code ({ cls := "com/example/lattice_bound/latticebound/network/Direction", name := "alongX", desc := "(I)Lcom/example/lattice_bound/latticebound/network/Direction;" } : Jvm.MethodName) prog_18_method_10_code (1 : Nat) (Option.some (Jvm.ClassFile.FieldType.object "com/example/lattice_bound/latticebound/network/Direction")), Jvm.Cond.code ({ cls := "com/example/lattice_bound/latticebound/network/Direction", name := "getDy", desc := "()I" } : Jvm.MethodName) prog_18_method_6_code (1 : Nat) (Option.some Jvm.ClassFile.FieldType.int), Jvm.Cond.code ({ cls := "com/example/lattice_bound/latticebound/network/Direction", name := "getDx", desc := "()I" } : Jvm.MethodName) prog_18_method_5_code (1 : Nat) (Option.some Jvm.ClassFile.FieldType.int)]
set_option maxRecDepth 65536 in
theorem codes_eq : words1.filter isCode = codes1 := rfl
theorem w_codes : ∀ c ∈ words1.filter isCode, c.before args0 about1 = true := by
  rw [codes_eq]
  intro c hc
  simp only [codes1, List.mem_cons, List.not_mem_nil, or_false] at hc
  rcases hc with rfl | rfl | rfl | rfl
  · exact w_c0
  · exact w_c1
  · exact w_c2
  · exact w_c3
set_option maxRecDepth 65536 in
theorem w_t1 : words1.all (fun c => isCode c || c.before args0 about1) = true := by decide +kernel
theorem w_tables : (allAtoms (Jvm.Cond.code x code maxLocals ret :: tables_1)).before args0 about1 = true := by
  rw [allAtoms_all]
  show words1.all (fun c => c.before args0 about1) = true
  refine all_split ?_ w_codes
  rw [w_t1]
set_option maxRecDepth 65536 in
theorem w_case : (Jvm.Cond.and given_1 narrow_1).before args0 about1 = true := by decide +kernel
theorem w_applies : (headSpec (Jvm.Cond.code x code maxLocals ret :: tables_1) room_1).applies x e0.platform about1 = true :=
  (Spec.applies_iff w_frames).mpr ⟨w_running, w_runnable, w_alone, w_named, w_hears, w_ripe, w_room, w_tables⟩
theorem atStart : AtStart classFile x code maxLocals ret World_1 tables_1 room_1 Calls_1 rest_1 Pre_1 launch0 p0 e0 about1 theMethod args0 below0 :=
  ⟨lists_1, trivial, launch0.admits_env _ _ _, launch0.least_env, fairChoices_fair.cas, fairChoices_fair.clock, w_frames, w_args, w_heap, w_applies, trivial, trivial, w_case⟩
end start1
theorem witness_1 : WitnessClaimed_1 := ⟨start1.p0, start1.e0, start1.about1, start1.theMethod, start1.args0, start1.below0, start1.atStart⟩
end Jvm.Pilot.@@N@@
