import JvmDerived
import JvmDerived.Pilot.@@N@@Statement
import JvmDerived.Pilot.@@N@@Code
set_option linter.unusedVariables false
set_option linter.unusedSimpArgs false
namespace Jvm.Pilot.@@N@@
open Jvm Jvm.ClassFile Sem Op Lib Jvm.Free Jvm.Stand Jvm.LawKit Jvm.RoadKit Bundle Jvm.Pilot.@@N@@.Jvm.D
/-! the run comes from here to an end at which Q holds -/
def own_Comes (p : Program) (e : Env) (below : List Frame) (Q : Outcome → State → Prop) (T : State) (f : JFrame) : Prop :=
  ∃ s₂ o, Steps p.tables e below (T.setTop f) s₂ ∧ s₂.status = .running ∧ Ended s₂ below o ∧ Q o s₂
theorem own_lift {p : Program} {e : Env} {below : List Frame} {Q : Outcome → State → Prop} {T T' : State} {f f' : JFrame} (st : ∀ t, Steps p.tables e below (T'.setTop f') t → Steps p.tables e below (T.setTop f) t) (h : own_Comes p e below Q T' f') : own_Comes p e below Q T f := by
  obtain ⟨s₂, o, a, b⟩ := h
  exact ⟨s₂, o, st _ a, b⟩
theorem own_start {p : Program} {e : Env} {below : List Frame} {Q : Outcome → State → Prop} {T : State} {g g' : JFrame} (q : g = g') (h : own_Comes p e below Q T g') : ∃ s₂ o, Steps p.tables e below (T.setTop g) s₂ ∧ s₂.status = .running ∧ Ended s₂ below o ∧ Q o s₂ := by
  subst q; exact h
/-! what a body that writes and makes nothing leaves -/
def own_Q (val : Value) (h0 : Heap) (v : Option Value) (h : Heap) (L : List Loc) : Prop := v = some val ∧ L = [] ∧ h = h0
def own_End (val : Value) (h0 : Heap) (s : State) (R : Room) (o : Outcome) (U' : State) : Prop := ∃ v L, o = .returned v ∧ own_Q val h0 v U'.heap L ∧ FrameEnd s o U' L R.cells R.slots
section OwnRet
variable {p : Program} {l : Launch} {e : Env} {R : Room} {s : State} {m : MethodId} {args : Array Value} {below : List Frame} {meth : Method} {c : Code} {T : State}
theorem own_ret (X : Stand p l e R s m args below meth c T [] 0 0) (hx : p.tables.exec = Jvm.exec) (hlk : meth.locks = false) {pc : Nat} {Ls : Array Slot} {w : Value} {t : FieldType} {i : Instr} {rest : List Value} (hret : meth.sig.returnType = some t) (hn : narrow t w = w)
    (hi : (i = .ireturn ∧ (t = .int ∨ t = .boolean ∨ t = .byte ∨ t = .char ∨ t = .short) ∧ ∃ z, w = .int z) ∨ (i = .lreturn ∧ t = .long ∧ ∃ z, w = .long z) ∨ (i = .dreturn ∧ t = .double ∧ ∃ z, w = .double z) ∨ (i = .freturn ∧ t = .float ∧ ∃ z, w = .float z) ∨ (i = .areturn ∧ t.isReference = true ∧ w.isRef = true))
    (hd : decode c.code pc = .ok (i, 1)) {h0 : Heap} (eT : T.heap = h0) {val : Value} (hval : val = w) : own_Comes p e below (own_End val h0 s R) T (mkF m pc Ls (w :: rest)) := by
  subst hval
  obtain ⟨fs, hr, hrun, hended, hW, hsame⟩ := X.leave (v := some val) (fun h => by rw [hret] at h; cases h) hlk
  exact ⟨_, _, retOut X hx hret hn hi hd hr, hrun, hended, _, _, rfl, ⟨rfl, rfl, eT⟩, ⟨_, rfl⟩, hW, hsame.mono (Nat.zero_le _) (Nat.zero_le _)⟩
theorem own_retZ (X : Stand p l e R s m args below meth c T [] 0 0) (hx : p.tables.exec = Jvm.exec) (hlk : meth.locks = false) {pc : Nat} {Ls : Array Slot} {z : Int32} {rest : List Value} (hret : meth.sig.returnType = some .boolean) (hd : decode c.code pc = .ok (.ireturn, 1)) {h0 : Heap} (eT : T.heap = h0) (hz : z &&& 1 = z) {val : Value} (hval : val = .int z) : own_Comes p e below (own_End val h0 s R) T (mkF m pc Ls (.int z :: rest)) :=
  own_ret X hx hlk hret (by show Value.int (z &&& 1) = .int z; rw [hz]) (Or.inl ⟨rfl, by simp, z, rfl⟩) hd eT hval
theorem own_retI (X : Stand p l e R s m args below meth c T [] 0 0) (hx : p.tables.exec = Jvm.exec) (hlk : meth.locks = false) {pc : Nat} {Ls : Array Slot} {z : Int32} {rest : List Value} (hret : meth.sig.returnType = some .int) (hd : decode c.code pc = .ok (.ireturn, 1)) {h0 : Heap} (eT : T.heap = h0) {val : Value} (hval : val = .int z) : own_Comes p e below (own_End val h0 s R) T (mkF m pc Ls (.int z :: rest)) :=
  own_ret X hx hlk hret rfl (Or.inl ⟨rfl, by simp, z, rfl⟩) hd eT hval
theorem own_retA (X : Stand p l e R s m args below meth c T [] 0 0) (hx : p.tables.exec = Jvm.exec) (hlk : meth.locks = false) {pc : Nat} {Ls : Array Slot} {w : Value} {C : String} {rest : List Value} (hret : meth.sig.returnType = some (.object C)) (hd : decode c.code pc = .ok (.areturn, 1)) {h0 : Heap} (eT : T.heap = h0) (hw : w.isRef = true) {val : Value} (hval : val = w) : own_Comes p e below (own_End val h0 s R) T (mkF m pc Ls (w :: rest)) :=
  own_ret X hx hlk hret rfl (Or.inr (Or.inr (Or.inr (Or.inr ⟨rfl, rfl, hw⟩)))) hd eT hval
end OwnRet
/-! what a case says of a field of an object, as a value -/
theorem own_fld {args : Array Value} {s : State} {t : Term} {C n d : String} {a : Addr} {k : Int32} (ev : t.eval args s none [] s = some (.ref a)) (h : (Jvm.Cond.eq (.field t C n d) (.int k)).value args s none s [] = some true) : s.fieldOf? a C n d = some (.int k) := by
  obtain ⟨x, y, hx, hy, -, hk⟩ := cmp_v (Or.inl h)
  have hy2 : some (Value.int k) = some y := (Term.int_eval k).symm.trans hy
  cases hy2
  obtain ⟨z, rfl⟩ : ∃ z, x = .int z := hk
  have q : (Jvm.Cond.eq (.field t C n d) (.int k)).value args s none s [] = some (decide (z = k)) := by simp [Cond.value, hx, hy]
  obtain rfl : z = k := gotT q h
  rw [fld_at ev] at hx; exact hx
theorem d1_0 : decode prog_101_method_5_code 0 = .ok (.aload_n 0, 1) := by decide +kernel
theorem d1_1 : decode prog_101_method_5_code 1 = .ok (.getstatic 3, 3) := by decide +kernel
theorem d1_4 : decode prog_101_method_5_code 4 = .ok (.if_acmp .ne 9, 3) := by decide +kernel
theorem d1_7 : decode prog_101_method_5_code 7 = .ok (.getstatic 7, 3) := by decide +kernel
theorem d1_10 : decode prog_101_method_5_code 10 = .ok (.goto 6, 3) := by decide +kernel
theorem d1_13 : decode prog_101_method_5_code 13 = .ok (.getstatic 3, 3) := by decide +kernel
theorem d1_16 : decode prog_101_method_5_code 16 = .ok (.areturn, 1) := by decide +kernel
theorem pn_1 : plainName "com/example/portwise/portwise/profile/process/Step$Party" = true := by first | (simp [plainName, overriddenIn]; done) | decide +kernel
theorem pd_1 : parseMethodDescriptor "()Lcom/example/portwise/portwise/profile/process/Step$Party;" = some ⟨[], some (.object "com/example/portwise/portwise/profile/process/Step$Party")⟩ := by decide +kernel
theorem ef_1 (m : MethodId) (x0 : Addr)  : entryFrame m #[(.ref x0)] 1 = mkF m 0 #[.val (.ref x0)] [] := by first | (simp [entryFrame, mkF, argsToLocals, Value.category]; done) | rfl
set_option maxRecDepth 65536 in
set_option maxHeartbeats 40000000 in
theorem rm1 (l : Launch) (Z : State) (a0 : Array Value) (hw : ∀ d ∈ tables_1, d.before a0 Z = true) (ws : List Jvm.Cond) (a1 wR wD val : Addr) (h0 : Heap) (S_RECIPIENT : Sta Z h0 "com/example/portwise/portwise/profile/process/Step$Party" "RECIPIENT" "Lcom/example/portwise/portwise/profile/process/Step$Party;" (.ref wR)) (S_DONOR : Sta Z h0 "com/example/portwise/portwise/profile/process/Step$Party" "DONOR" "Lcom/example/portwise/portwise/profile/process/Step$Party;" (.ref wD)) (hv : val = if a1 = wR then wD else wR) :
    MetFree l (⟨"com/example/portwise/portwise/profile/process/Step$Party", "other", "()Lcom/example/portwise/portwise/profile/process/Step$Party;"⟩ : MethodName) (head1 (Jvm.Cond.code (⟨"com/example/portwise/portwise/profile/process/Step$Party", "other", "()Lcom/example/portwise/portwise/profile/process/Step$Party;"⟩ : MethodName) prog_101_method_5_code 1 (some (.object "com/example/portwise/portwise/profile/process/Step$Party")) :: ws) ({ frames := 0, cells := 0, slots := 0, locals := 0 } : Room)) (fun a U => a = #[(.ref a1)] ∧ Z.Warmed39 U.vm ∧ U.heap = h0) (fun _ _ _ _ _ => True) (fun _ U o U' => ∃ v L, o = .returned v ∧ own_Q (.ref val) h0 v U'.heap L ∧ FrameEnd U o U' L ({ frames := 0, cells := 0, slots := 0, locals := 0 } : Room).cells ({ frames := 0, cells := 0, slots := 0, locals := 0 } : Room).slots) := by
  refine MetFree.of_bodySF (plainFor_of_name pn_1) hisR ?_
  intro p e s m args below meth c s₁ Bd hml0 hP hK
  obtain ⟨rfl, hZ, hh⟩ := hP
  have hx := Bd.exec
  have hby := Bd.bytes
  have hml : c.maxLocals = 1 := hml0
  have hown : s.vm.findClass "com/example/portwise/portwise/profile/process/Step$Party" = some m.cls := findClass_of_methodNamed Bd.named
  have hlk : meth.locks = false := BodyLoose.notSynchronized Bd
  have X0 : Stand p l e ({ frames := 0, cells := 0, slots := 0, locals := 0 } : Room) s m #[(.ref a1)] below meth c s₁ [] 0 0 := Stand.of_body Bd
  have e0 : s₁.heap = h0 := by rw [← hh, Bd.state]; rfl
  refine own_start (Q := own_End (.ref val) h0 s ({ frames := 0, cells := 0, slots := 0, locals := 0 } : Room)) (ef_1 m a1) ?_
  refine own_lift (T' := s₁) (f' := (mkF m 1 #[.val (.ref a1)] [(.ref a1)])) (fun _ k => XS.aloadN X0.here hx rfl (hb hby d1_0) rfl rfl k) ?_
  obtain ⟨T1, X1, e1, st1⟩ := getS2 X0 hx hZ hown (host := "") (Or.inl (hw _ (List.mem_of_getElem? (i := 8) rfl))) Via.refl e0 S_RECIPIENT (g := (mkF m 1 #[.val (.ref a1)] [(.ref a1)])) rfl (hb hby d1_1)
  refine own_lift (T' := T1) (f' := (mkF m 4 #[.val (.ref a1)] [(.ref wR), (.ref a1)])) (st1) ?_
  by_cases h1 : a1 = wR
  · refine own_lift (T' := T1) (f' := (mkF m 7 #[.val (.ref a1)] [])) (fun _ k => Jvm.RoadKit.acmp (g := (mkF m 4 #[.val (.ref a1)] [(.ref wR), (.ref a1)])) X1 hx rfl rfl rfl (pc0 := 4) (pc' := 7) (same := true) rfl (hb hby d1_4) rfl (decide_eq_true (congrArg Value.ref h1)) (by decide) (by decide) k) ?_
    obtain ⟨T2, X2, e2, st2⟩ := getS2 X1 hx hZ hown (host := "") (Or.inl (hw _ (List.mem_of_getElem? (i := 9) rfl))) Via.refl e1 S_DONOR (g := (mkF m 7 #[.val (.ref a1)] [])) rfl (hb hby d1_7)
    refine own_lift (T' := T2) (f' := (mkF m 10 #[.val (.ref a1)] [(.ref wD)])) (st2) ?_
    refine own_lift (T' := T2) (f' := (mkF m 16 #[.val (.ref a1)] [(.ref wD)])) (fun _ k => XS.goto X2.here hx rfl (pc0 := 10) (pc' := 16) rfl (hb hby d1_10) (by decide) (by decide) k) ?_
    exact own_retA X2 hx hlk Bd.returns (hb hby d1_16) e2 rfl (by simp [hv, h1])
  · refine own_lift (T' := T1) (f' := (mkF m 13 #[.val (.ref a1)] [])) (fun _ k => Jvm.RoadKit.acmp (g := (mkF m 4 #[.val (.ref a1)] [(.ref wR), (.ref a1)])) X1 hx rfl rfl rfl (pc0 := 4) (pc' := 13) (same := false) rfl (hb hby d1_4) rfl (decide_eq_false fun q => h1 (Value.ref.inj q)) (by decide) (by decide) k) ?_
    obtain ⟨T3, X3, e3, st3⟩ := getS2 X1 hx hZ hown (host := "") (Or.inl (hw _ (List.mem_of_getElem? (i := 8) rfl))) Via.refl e1 S_RECIPIENT (g := (mkF m 13 #[.val (.ref a1)] [])) rfl (hb hby d1_13)
    refine own_lift (T' := T3) (f' := (mkF m 16 #[.val (.ref a1)] [(.ref wR)])) (st3) ?_
    exact own_retA X3 hx hlk Bd.returns (hb hby d1_16) e3 rfl (by simp [hv, h1])
theorem pn_0 : plainName "com/example/portwise/portwise/profile/process/PartyOtherPinLaw" = true := by first | (simp [plainName, overriddenIn]; done) | decide +kernel
theorem pd_0 : parseMethodDescriptor "(I)Z" = some ⟨[.int], some .boolean⟩ := by decide +kernel
theorem ef_0 (m : MethodId) (x0 : Int32)  : entryFrame m #[(.int x0)] maxLocals = mkF m 0 #[.val (.int x0), .unset, .unset] [] := by first | (simp [entryFrame, mkF, argsToLocals, Value.category, maxLocals]; done) | rfl
set_option maxRecDepth 65536 in
set_option maxHeartbeats 40000000 in
theorem rm0 (l : Launch) (Z : State) (a0 : Array Value) (hw : ∀ d ∈ tables_1, d.before a0 Z = true) (ws : List Jvm.Cond) (p1 : Int32) (wR wD : Addr) (h0 : Heap) (S_RECIPIENT : Sta Z h0 "com/example/portwise/portwise/profile/process/Step$Party" "RECIPIENT" "Lcom/example/portwise/portwise/profile/process/Step$Party;" (.ref wR)) (S_DONOR : Sta Z h0 "com/example/portwise/portwise/profile/process/Step$Party" "DONOR" "Lcom/example/portwise/portwise/profile/process/Step$Party;" (.ref wD)) (E_R : Exa Z h0 wR "com/example/portwise/portwise/profile/process/Step$Party") (E_D : Exa Z h0 wD "com/example/portwise/portwise/profile/process/Step$Party") (hne : wD ≠ wR) :
    MetFree l x (head1 (Jvm.Cond.code x code maxLocals ret :: ws) room_1) (fun a U => a = #[(.int p1)] ∧ Z.Warmed39 U.vm ∧ U.heap = h0) (fun _ _ _ _ _ => True) (fun _ U o U' => ∃ v L, o = .returned v ∧ own_Q (.int 1) h0 v U'.heap L ∧ FrameEnd U o U' L room_1.cells room_1.slots) := by
  refine MetFree.of_bodySF (plainFor_of_name pn_0) hisR ?_
  intro p e s m args below meth c s₁ Bd hml0 hP hK
  obtain ⟨rfl, hZ, hh⟩ := hP
  have hx := Bd.exec
  have hby := Bd.bytes
  have hml : c.maxLocals = 3 := hml0
  have hown : s.vm.findClass "com/example/portwise/portwise/profile/process/PartyOtherPinLaw" = some m.cls := findClass_of_methodNamed Bd.named
  have hlk : meth.locks = false := BodyLoose.notSynchronized Bd
  have X0 : Stand p l e room_1 s m #[(.int p1)] below meth c s₁ [] 0 0 := Stand.of_body Bd
  have e0 : s₁.heap = h0 := by rw [← hh, Bd.state]; rfl
  refine own_start (Q := own_End (.int 1) h0 s room_1) (ef_0 m p1) ?_
  refine own_lift (T' := s₁) (f' := (mkF m 1 #[.val (.int p1), .unset, .unset] [(.int p1)])) (fun _ k => XS.iloadN X0.here hx rfl (hb hby at_0) rfl k) ?_
  refine own_lift (T' := s₁) (f' := (mkF m 2 #[.val (.int p1), .unset, .unset] [(.int (1 : Int32)), (.int p1)])) (fun _ k => XS.iconst X0.here hx rfl (hb hby at_1) k) ?_
  refine own_lift (T' := s₁) (f' := (mkF m 3 #[.val (.int p1), .unset, .unset] [(.int (p1 &&& (1 : Int32)))])) (fun _ k => XS.iand X0.here hx rfl (hb hby at_2) rfl k) ?_
  by_cases h0c : (p1 &&& (1 : Int32)) = (0 : Int32)
  · refine own_lift (T' := s₁) (f' := (mkF m 12 #[.val (.int p1), .unset, .unset] [])) (fun _ k => XS.ifYes X0.here hx rfl (pc0 := 3) (pc' := 12) rfl (hb hby at_3) rfl ((if0 _ _).trans (teq h0c).1) (by decide) (by decide) k) ?_
    obtain ⟨T4, X4, e4, st4⟩ := getS2 X0 hx hZ hown (host := "") (Or.inl (hw _ (List.mem_of_getElem? (i := 0) rfl))) Via.refl e0 S_RECIPIENT (g := (mkF m 12 #[.val (.int p1), .unset, .unset] [])) rfl (hb hby at_12)
    refine own_lift (T' := T4) (f' := (mkF m 15 #[.val (.int p1), .unset, .unset] [(.ref wR)])) (st4) ?_
    refine own_lift (T' := T4) (f' := (mkF m 16 #[.val (.int p1), .val (.ref wR), .unset] [])) (fun _ k => XS.astoreN X4.here hx rfl (hb hby at_15) rfl rfl (l' := #[.val (.int p1), .val (.ref wR), .unset]) rfl k) ?_
    refine own_lift (T' := T4) (f' := (mkF m 17 #[.val (.int p1), .val (.ref wR), .unset] [(.ref wR)])) (fun _ k => XS.aloadN X4.here hx rfl (hb hby at_16) rfl rfl k) ?_
    obtain ⟨cq5, kq5, q5a, q5b, q5c⟩ := isOf hZ e4 E_R
    obtain ⟨_, _, ⟨T5, L5, k5, n5⟩, -, Y5, ⟨Lc5, hQ5, l5, y5, z5⟩, st5⟩ := X4.virtualBack hx (y := (⟨"com/example/portwise/portwise/profile/process/Step$Party", "other", "()Lcom/example/portwise/portwise/profile/process/Step$Party;"⟩ : MethodName)) (z := (⟨"com/example/portwise/portwise/profile/process/Step$Party", "other", "()Lcom/example/portwise/portwise/profile/process/Step$Party;"⟩ : MethodName)) hown (mvT hZ (hw _ (List.mem_of_getElem? (i := 3) rfl))) (mvT hZ (hw _ (List.mem_of_getElem? (i := 4) rfl))) (notFace_of_selects (args := #[]) (mvT hZ (hw _ (List.mem_of_getElem? (i := 6) rfl)))) (mvT hZ (hw _ (List.mem_of_getElem? (i := 6) rfl))) (mvT hZ (hw _ (List.mem_of_getElem? (i := 5) rfl))) (by decide) (backOf (W := 0) (rm1 l Z a0 hw [] wR wR wD wD h0 S_RECIPIENT S_DONOR (by simp)) hZ (hw _ (List.mem_of_getElem? (i := 7) rfl)) (hw _ (List.mem_of_getElem? (i := 1) rfl)) (by decide) (by decide)) q5a q5c (g := (mkF m 17 #[.val (.int p1), .val (.ref wR), .unset] [(.ref wR)])) rfl (by rw [hml]; rfl) (Steps.refl _) (argsL := []) (rest := []) (lenOf pd_1 rfl) rfl (by show 2 * 0 + _ ≤ _; exact Nat.le_of_eq rfl) (hb hby at_17) (fun _ _ => ⟨rfl, e4, (by decide : 0 + 0 ≤ _), (by decide : 0 + 0 ≤ _)⟩)
    dsimp only [Pt.U, Pt.locs, Pt.cells, Pt.slots] at Y5 l5 y5 z5 st5 hQ5
    subst l5 y5 z5
    obtain ⟨rfl, rfl, e5⟩ := hQ5
    have X5 : Stand p l e room_1 s m #[(.int p1)] below meth c T5 [] 0 0 := Y5
    refine own_lift (T' := T5) (f' := (mkF m 20 #[.val (.int p1), .val (.ref wR), .unset] [(.ref wD)])) (fun _ k => st5.trans k) ?_
    refine own_lift (T' := T5) (f' := (mkF m 21 #[.val (.int p1), .val (.ref wR), .val (.ref wD)] [])) (fun _ k => XS.astoreN X5.here hx rfl (hb hby at_20) rfl rfl (l' := #[.val (.int p1), .val (.ref wR), .val (.ref wD)]) rfl k) ?_
    refine own_lift (T' := T5) (f' := (mkF m 22 #[.val (.int p1), .val (.ref wR), .val (.ref wD)] [(.ref wD)])) (fun _ k => XS.aloadN X5.here hx rfl (hb hby at_21) rfl rfl k) ?_
    refine own_lift (T' := T5) (f' := (mkF m 27 #[.val (.int p1), .val (.ref wR), .val (.ref wD)] [])) (fun _ k => XS.ifnonnullYes X5.here hx rfl (pc0 := 22) (pc' := 27) rfl (hb hby at_22) rfl (by decide) (by decide) k) ?_
    refine own_lift (T' := T5) (f' := (mkF m 28 #[.val (.int p1), .val (.ref wR), .val (.ref wD)] [(.ref wD)])) (fun _ k => XS.aloadN X5.here hx rfl (hb hby at_27) rfl rfl k) ?_
    refine own_lift (T' := T5) (f' := (mkF m 29 #[.val (.int p1), .val (.ref wR), .val (.ref wD)] [(.ref wR), (.ref wD)])) (fun _ k => XS.aloadN X5.here hx rfl (hb hby at_28) rfl rfl k) ?_
    refine own_lift (T' := T5) (f' := (mkF m 34 #[.val (.int p1), .val (.ref wR), .val (.ref wD)] [])) (fun _ k => Jvm.RoadKit.acmp (g := (mkF m 29 #[.val (.int p1), .val (.ref wR), .val (.ref wD)] [(.ref wR), (.ref wD)])) X5 hx rfl rfl rfl (pc0 := 29) (pc' := 34) (same := false) rfl (hb hby at_29) rfl (decide_eq_false fun q => hne (Value.ref.inj q)) (by decide) (by decide) k) ?_
    refine own_lift (T' := T5) (f' := (mkF m 35 #[.val (.int p1), .val (.ref wR), .val (.ref wD)] [(.ref wD)])) (fun _ k => XS.aloadN X5.here hx rfl (hb hby at_34) rfl rfl k) ?_
    obtain ⟨cq6, kq6, q6a, q6b, q6c⟩ := isOf hZ e5 E_D
    obtain ⟨_, _, ⟨T6, L6, k6, n6⟩, -, Y6, ⟨Lc6, hQ6, l6, y6, z6⟩, st6⟩ := X5.virtualBack hx (y := (⟨"com/example/portwise/portwise/profile/process/Step$Party", "other", "()Lcom/example/portwise/portwise/profile/process/Step$Party;"⟩ : MethodName)) (z := (⟨"com/example/portwise/portwise/profile/process/Step$Party", "other", "()Lcom/example/portwise/portwise/profile/process/Step$Party;"⟩ : MethodName)) hown (mvT hZ (hw _ (List.mem_of_getElem? (i := 3) rfl))) (mvT hZ (hw _ (List.mem_of_getElem? (i := 4) rfl))) (notFace_of_selects (args := #[]) (mvT hZ (hw _ (List.mem_of_getElem? (i := 6) rfl)))) (mvT hZ (hw _ (List.mem_of_getElem? (i := 6) rfl))) (mvT hZ (hw _ (List.mem_of_getElem? (i := 5) rfl))) (by decide) (backOf (W := 0) (rm1 l Z a0 hw [] wD wR wD wR h0 S_RECIPIENT S_DONOR (by simp [hne])) hZ (hw _ (List.mem_of_getElem? (i := 7) rfl)) (hw _ (List.mem_of_getElem? (i := 1) rfl)) (by decide) (by decide)) q6a q6c (g := (mkF m 35 #[.val (.int p1), .val (.ref wR), .val (.ref wD)] [(.ref wD)])) rfl (by rw [hml]; rfl) (Steps.refl _) (argsL := []) (rest := []) (lenOf pd_1 rfl) rfl (by show 2 * 0 + _ ≤ _; exact Nat.le_of_eq rfl) (hb hby at_35) (fun _ _ => ⟨rfl, e5, (by decide : 0 + 0 ≤ _), (by decide : 0 + 0 ≤ _)⟩)
    dsimp only [Pt.U, Pt.locs, Pt.cells, Pt.slots] at Y6 l6 y6 z6 st6 hQ6
    subst l6 y6 z6
    obtain ⟨rfl, rfl, e6⟩ := hQ6
    have X6 : Stand p l e room_1 s m #[(.int p1)] below meth c T6 [] 0 0 := Y6
    refine own_lift (T' := T6) (f' := (mkF m 38 #[.val (.int p1), .val (.ref wR), .val (.ref wD)] [(.ref wR)])) (fun _ k => st6.trans k) ?_
    refine own_lift (T' := T6) (f' := (mkF m 39 #[.val (.int p1), .val (.ref wR), .val (.ref wD)] [(.ref wR), (.ref wR)])) (fun _ k => XS.aloadN X6.here hx rfl (hb hby at_38) rfl rfl k) ?_
    refine own_lift (T' := T6) (f' := (mkF m 42 #[.val (.int p1), .val (.ref wR), .val (.ref wD)] [])) (fun _ k => Jvm.RoadKit.acmp (g := (mkF m 39 #[.val (.int p1), .val (.ref wR), .val (.ref wD)] [(.ref wR), (.ref wR)])) X6 hx rfl rfl rfl (pc0 := 39) (pc' := 42) (same := true) rfl (hb hby at_39) rfl (decide_eq_true (congrArg Value.ref rfl)) (by decide) (by decide) k) ?_
    refine own_lift (T' := T6) (f' := (mkF m 43 #[.val (.int p1), .val (.ref wR), .val (.ref wD)] [(.int (1 : Int32))])) (fun _ k => XS.iconst X6.here hx rfl (hb hby at_42) k) ?_
    refine own_lift (T' := T6) (f' := (mkF m 47 #[.val (.int p1), .val (.ref wR), .val (.ref wD)] [(.int (1 : Int32))])) (fun _ k => XS.goto X6.here hx rfl (pc0 := 43) (pc' := 47) rfl (hb hby at_43) (by decide) (by decide) k) ?_
    exact own_retZ X6 hx hlk Bd.returns (hb hby at_47) e6 (by decide) rfl
  · refine own_lift (T' := s₁) (f' := (mkF m 6 #[.val (.int p1), .unset, .unset] [])) (fun _ k => XS.ifNo X0.here hx rfl (hb hby at_3) rfl ((if0 _ _).trans (feq h0c).1) k) ?_
    obtain ⟨T7, X7, e7, st7⟩ := getS2 X0 hx hZ hown (host := "") (Or.inl (hw _ (List.mem_of_getElem? (i := 11) rfl))) Via.refl e0 S_DONOR (g := (mkF m 6 #[.val (.int p1), .unset, .unset] [])) rfl (hb hby at_6)
    refine own_lift (T' := T7) (f' := (mkF m 9 #[.val (.int p1), .unset, .unset] [(.ref wD)])) (st7) ?_
    refine own_lift (T' := T7) (f' := (mkF m 15 #[.val (.int p1), .unset, .unset] [(.ref wD)])) (fun _ k => XS.goto X7.here hx rfl (pc0 := 9) (pc' := 15) rfl (hb hby at_9) (by decide) (by decide) k) ?_
    refine own_lift (T' := T7) (f' := (mkF m 16 #[.val (.int p1), .val (.ref wD), .unset] [])) (fun _ k => XS.astoreN X7.here hx rfl (hb hby at_15) rfl rfl (l' := #[.val (.int p1), .val (.ref wD), .unset]) rfl k) ?_
    refine own_lift (T' := T7) (f' := (mkF m 17 #[.val (.int p1), .val (.ref wD), .unset] [(.ref wD)])) (fun _ k => XS.aloadN X7.here hx rfl (hb hby at_16) rfl rfl k) ?_
    obtain ⟨cq8, kq8, q8a, q8b, q8c⟩ := isOf hZ e7 E_D
    obtain ⟨_, _, ⟨T8, L8, k8, n8⟩, -, Y8, ⟨Lc8, hQ8, l8, y8, z8⟩, st8⟩ := X7.virtualBack hx (y := (⟨"com/example/portwise/portwise/profile/process/Step$Party", "other", "()Lcom/example/portwise/portwise/profile/process/Step$Party;"⟩ : MethodName)) (z := (⟨"com/example/portwise/portwise/profile/process/Step$Party", "other", "()Lcom/example/portwise/portwise/profile/process/Step$Party;"⟩ : MethodName)) hown (mvT hZ (hw _ (List.mem_of_getElem? (i := 3) rfl))) (mvT hZ (hw _ (List.mem_of_getElem? (i := 4) rfl))) (notFace_of_selects (args := #[]) (mvT hZ (hw _ (List.mem_of_getElem? (i := 6) rfl)))) (mvT hZ (hw _ (List.mem_of_getElem? (i := 6) rfl))) (mvT hZ (hw _ (List.mem_of_getElem? (i := 5) rfl))) (by decide) (backOf (W := 0) (rm1 l Z a0 hw [] wD wR wD wR h0 S_RECIPIENT S_DONOR (by simp [hne])) hZ (hw _ (List.mem_of_getElem? (i := 7) rfl)) (hw _ (List.mem_of_getElem? (i := 1) rfl)) (by decide) (by decide)) q8a q8c (g := (mkF m 17 #[.val (.int p1), .val (.ref wD), .unset] [(.ref wD)])) rfl (by rw [hml]; rfl) (Steps.refl _) (argsL := []) (rest := []) (lenOf pd_1 rfl) rfl (by show 2 * 0 + _ ≤ _; exact Nat.le_of_eq rfl) (hb hby at_17) (fun _ _ => ⟨rfl, e7, (by decide : 0 + 0 ≤ _), (by decide : 0 + 0 ≤ _)⟩)
    dsimp only [Pt.U, Pt.locs, Pt.cells, Pt.slots] at Y8 l8 y8 z8 st8 hQ8
    subst l8 y8 z8
    obtain ⟨rfl, rfl, e8⟩ := hQ8
    have X8 : Stand p l e room_1 s m #[(.int p1)] below meth c T8 [] 0 0 := Y8
    refine own_lift (T' := T8) (f' := (mkF m 20 #[.val (.int p1), .val (.ref wD), .unset] [(.ref wR)])) (fun _ k => st8.trans k) ?_
    refine own_lift (T' := T8) (f' := (mkF m 21 #[.val (.int p1), .val (.ref wD), .val (.ref wR)] [])) (fun _ k => XS.astoreN X8.here hx rfl (hb hby at_20) rfl rfl (l' := #[.val (.int p1), .val (.ref wD), .val (.ref wR)]) rfl k) ?_
    refine own_lift (T' := T8) (f' := (mkF m 22 #[.val (.int p1), .val (.ref wD), .val (.ref wR)] [(.ref wR)])) (fun _ k => XS.aloadN X8.here hx rfl (hb hby at_21) rfl rfl k) ?_
    refine own_lift (T' := T8) (f' := (mkF m 27 #[.val (.int p1), .val (.ref wD), .val (.ref wR)] [])) (fun _ k => XS.ifnonnullYes X8.here hx rfl (pc0 := 22) (pc' := 27) rfl (hb hby at_22) rfl (by decide) (by decide) k) ?_
    refine own_lift (T' := T8) (f' := (mkF m 28 #[.val (.int p1), .val (.ref wD), .val (.ref wR)] [(.ref wR)])) (fun _ k => XS.aloadN X8.here hx rfl (hb hby at_27) rfl rfl k) ?_
    refine own_lift (T' := T8) (f' := (mkF m 29 #[.val (.int p1), .val (.ref wD), .val (.ref wR)] [(.ref wD), (.ref wR)])) (fun _ k => XS.aloadN X8.here hx rfl (hb hby at_28) rfl rfl k) ?_
    refine own_lift (T' := T8) (f' := (mkF m 34 #[.val (.int p1), .val (.ref wD), .val (.ref wR)] [])) (fun _ k => Jvm.RoadKit.acmp (g := (mkF m 29 #[.val (.int p1), .val (.ref wD), .val (.ref wR)] [(.ref wD), (.ref wR)])) X8 hx rfl rfl rfl (pc0 := 29) (pc' := 34) (same := false) rfl (hb hby at_29) rfl (decide_eq_false fun q => (fun q => hne q.symm) (Value.ref.inj q)) (by decide) (by decide) k) ?_
    refine own_lift (T' := T8) (f' := (mkF m 35 #[.val (.int p1), .val (.ref wD), .val (.ref wR)] [(.ref wR)])) (fun _ k => XS.aloadN X8.here hx rfl (hb hby at_34) rfl rfl k) ?_
    obtain ⟨cq9, kq9, q9a, q9b, q9c⟩ := isOf hZ e8 E_R
    obtain ⟨_, _, ⟨T9, L9, k9, n9⟩, -, Y9, ⟨Lc9, hQ9, l9, y9, z9⟩, st9⟩ := X8.virtualBack hx (y := (⟨"com/example/portwise/portwise/profile/process/Step$Party", "other", "()Lcom/example/portwise/portwise/profile/process/Step$Party;"⟩ : MethodName)) (z := (⟨"com/example/portwise/portwise/profile/process/Step$Party", "other", "()Lcom/example/portwise/portwise/profile/process/Step$Party;"⟩ : MethodName)) hown (mvT hZ (hw _ (List.mem_of_getElem? (i := 3) rfl))) (mvT hZ (hw _ (List.mem_of_getElem? (i := 4) rfl))) (notFace_of_selects (args := #[]) (mvT hZ (hw _ (List.mem_of_getElem? (i := 6) rfl)))) (mvT hZ (hw _ (List.mem_of_getElem? (i := 6) rfl))) (mvT hZ (hw _ (List.mem_of_getElem? (i := 5) rfl))) (by decide) (backOf (W := 0) (rm1 l Z a0 hw [] wR wR wD wD h0 S_RECIPIENT S_DONOR (by simp)) hZ (hw _ (List.mem_of_getElem? (i := 7) rfl)) (hw _ (List.mem_of_getElem? (i := 1) rfl)) (by decide) (by decide)) q9a q9c (g := (mkF m 35 #[.val (.int p1), .val (.ref wD), .val (.ref wR)] [(.ref wR)])) rfl (by rw [hml]; rfl) (Steps.refl _) (argsL := []) (rest := []) (lenOf pd_1 rfl) rfl (by show 2 * 0 + _ ≤ _; exact Nat.le_of_eq rfl) (hb hby at_35) (fun _ _ => ⟨rfl, e8, (by decide : 0 + 0 ≤ _), (by decide : 0 + 0 ≤ _)⟩)
    dsimp only [Pt.U, Pt.locs, Pt.cells, Pt.slots] at Y9 l9 y9 z9 st9 hQ9
    subst l9 y9 z9
    obtain ⟨rfl, rfl, e9⟩ := hQ9
    have X9 : Stand p l e room_1 s m #[(.int p1)] below meth c T9 [] 0 0 := Y9
    refine own_lift (T' := T9) (f' := (mkF m 38 #[.val (.int p1), .val (.ref wD), .val (.ref wR)] [(.ref wD)])) (fun _ k => st9.trans k) ?_
    refine own_lift (T' := T9) (f' := (mkF m 39 #[.val (.int p1), .val (.ref wD), .val (.ref wR)] [(.ref wD), (.ref wD)])) (fun _ k => XS.aloadN X9.here hx rfl (hb hby at_38) rfl rfl k) ?_
    refine own_lift (T' := T9) (f' := (mkF m 42 #[.val (.int p1), .val (.ref wD), .val (.ref wR)] [])) (fun _ k => Jvm.RoadKit.acmp (g := (mkF m 39 #[.val (.int p1), .val (.ref wD), .val (.ref wR)] [(.ref wD), (.ref wD)])) X9 hx rfl rfl rfl (pc0 := 39) (pc' := 42) (same := true) rfl (hb hby at_39) rfl (decide_eq_true (congrArg Value.ref rfl)) (by decide) (by decide) k) ?_
    refine own_lift (T' := T9) (f' := (mkF m 43 #[.val (.int p1), .val (.ref wD), .val (.ref wR)] [(.int (1 : Int32))])) (fun _ k => XS.iconst X9.here hx rfl (hb hby at_42) k) ?_
    refine own_lift (T' := T9) (f' := (mkF m 47 #[.val (.int p1), .val (.ref wD), .val (.ref wR)] [(.int (1 : Int32))])) (fun _ k => XS.goto X9.here hx rfl (pc0 := 43) (pc' := 47) rfl (hb hby at_43) (by decide) (by decide) k) ?_
    exact own_retZ X9 hx hlk Bd.returns (hb hby at_47) e9 (by decide) rfl
set_option maxRecDepth 65536 in
set_option maxHeartbeats 40000000 in
theorem comes_1 {Post : Tables → Env → Array Value → State → Outcome → State → Prop} (hpost : ∀ tb e args s v u, (limb_1_1.after args s (.returned v) u = true ∧ limb_1_2.after args s (.returned v) u = true ∧ True) → FrameEnd s (.returned v) u (Jvm.fieldLocs frame_1_writes args s ++ Jvm.arrayLocs frame_1_arrays args s ++ Jvm.staticLocs frame_1_statics s) 0 0 → Post tb e args s (.returned v) u) :
    ArmFor flags0 classFile x code maxLocals ret World_1 tables_1 room_1 Calls_1 rest_1 Pre_1 Post := by
  intro l hfl _ _ p e ha hc hk s m args below hf hA hF happ hP
  obtain ⟨hcalls, hrest, hpre⟩ := hP
  obtain ⟨-, -, -, hnamed, -, -, -, hat⟩ := (Spec.applies_iff hf).mp happ
  obtain ⟨hg, hn⟩ := and_e (Cond.before_iff.mp (show (Jvm.Cond.and given_1 narrow_1).before args s = true from hpre))
  obtain ⟨g0, hg⟩ := and_e hg
  obtain ⟨w0, rfl⟩ : ∃ w0 : Value, args = #[w0] := by
    have hs : args.size = 1 := by simpa [Cond.value, given_1] using g0
    obtain ⟨L⟩ := args
    match L, hs with
    | [w0], _ => exact ⟨w0, rfl⟩
  have hw := fun d (hd : d ∈ tables_1) => atoms_spec (ws := Jvm.Cond.code x code maxLocals ret :: tables_1) hat d (List.mem_cons_of_mem _ hd)
  obtain ⟨i0, ei0⟩ := is_v hg
  obtain rfl : w0 = (.int i0) := Option.some.inj ei0
  obtain ⟨c0, hn⟩ := and_e hn
  obtain ⟨c1, hn⟩ := and_e hn
  obtain ⟨c2, hn⟩ := and_e hn
  have c3 := hn
  obtain ⟨a_RECIPIENT, ev_RECIPIENT⟩ := exa_v c0
  have S_RECIPIENT : Sta s s.heap "com/example/portwise/portwise/profile/process/Step$Party" "RECIPIENT" "Lcom/example/portwise/portwise/profile/process/Step$Party;" (.ref a_RECIPIENT) := Sta.start ev_RECIPIENT (Or.inr ⟨(hw _ (List.mem_of_getElem? (i := 1) rfl)), (hw _ (List.mem_of_getElem? (i := 2) rfl))⟩)
  have E_RECIPIENT : Exa s s.heap a_RECIPIENT "com/example/portwise/portwise/profile/process/Step$Party" := Exa.start ev_RECIPIENT c0
  obtain ⟨a_DONOR, ev_DONOR⟩ := exa_v c1
  have S_DONOR : Sta s s.heap "com/example/portwise/portwise/profile/process/Step$Party" "DONOR" "Lcom/example/portwise/portwise/profile/process/Step$Party;" (.ref a_DONOR) := Sta.start ev_DONOR (Or.inr ⟨(hw _ (List.mem_of_getElem? (i := 1) rfl)), (hw _ (List.mem_of_getElem? (i := 10) rfl))⟩)
  have E_DONOR : Exa s s.heap a_DONOR "com/example/portwise/portwise/profile/process/Step$Party" := Exa.start ev_DONOR c1
  have F_DONOR_ordinal : Fld s s.heap a_DONOR "java/lang/Enum" "ordinal" "I" (.int (1 : Int32)) := Fld.start (own_fld ev_DONOR c2)
  have F_RECIPIENT_ordinal : Fld s s.heap a_RECIPIENT "java/lang/Enum" "ordinal" "I" (.int (0 : Int32)) := Fld.start (own_fld ev_RECIPIENT c3)
  obtain ⟨n, o, h1, h2, h3, _, L, rfl, ⟨rfl, rfl, -⟩, hq⟩ := rm0 l s _ hw tables_1 i0 a_RECIPIENT a_DONOR s.heap S_RECIPIENT S_DONOR E_RECIPIENT E_DONOR (Fld.ne F_DONOR_ordinal F_RECIPIENT_ordinal (by decide)) p e ha hc hk s m _ below hf ((Spec.applies_iff_loose hf).mp happ).1 ⟨rfl, State.Warmed39.refl s, rfl⟩ trivial
  refine ⟨n, _, h1, h2, h3, hpost _ _ _ _ _ _ ⟨Cond.after_iff.mpr rfl, Cond.after_iff.mpr (eq_i res_at (Term.int_eval (1)) rfl), trivial⟩ ⟨hq.1, hq.2.1, (hq.2.2.sift fun y hy => Or.inr (Fr.nil s.heap.size y hy)).mono (by decide) (by decide)⟩⟩
theorem main_1_1 : Claimed_1_1 := comes_1 fun _ _ _ _ _ _ h hF => ⟨h.1, hF⟩
theorem main_1_2 : Claimed_1_2 := comes_1 fun _ _ _ _ _ _ h hF => ⟨h.2.1, hF⟩
end Jvm.Pilot.@@N@@
namespace Jvm.Pilot.@@N@@
open Jvm Jvm.ClassFile Sem Op Lib Jvm.Free Jvm.Stand Jvm.Pilot.@@N@@.Jvm.D
/-! MADE BY PROGRAM (witnessworld.py) out of the Statement's table words and the real class files: 10 classes; the members and pool entries that the words name. The judged class is class 1, her method 1. -/
namespace start1
open Jvm.ClassFile
def u (s : String) : CpInfo := .utf8 (stringToUtf16 s)
/-- a pool by its gaps: so many unusable entries, then the entry; so many at the end -/
def gap : Nat → List CpInfo → List CpInfo
  | 0, r => r
  | n + 1, r => .unusable :: gap n r
def poolList (es : List (Nat × CpInfo)) (last : Nat) : List CpInfo := es.foldr (fun e r => gap e.1 (e.2 :: r)) (gap last [])
def pool (es : List (Nat × CpInfo)) (last : Nat) : Array CpInfo := ⟨poolList es last⟩
def fileOf (pool : Array CpInfo) (this : Nat) (attrs : Array Attribute := #[]) (ms : Array MethodInfo := #[]) (fl : Nat := 33) (sup : Nat := 0) (ifs : Array Nat := #[]) (fds : Array FieldInfo := #[]) : ClassFile where
  minorVersion := 0
  majorVersion := 65
  constantPool := pool
  accessFlags := fl
  thisClass := this
  superClass := sup
  interfaces := ifs
  fields := fds
  methods := ms
  attributes := attrs
def plain (name : String) (sup : Option ClassId) : Class where
  name := name
  kind := .ordinary
  loader := none
  accessFlags := 33
  super := sup
  interfaces := #[]
  cf := none
  fields := #[]
  methods := #[]
  instanceTypes := #[]
  staticTypes := #[]
  resolved := #[]
  callSites := []
  init := .initialized
  statics := none
  mirror := none

def pool0 : Array CpInfo := pool [(5, u "<init>"), (0, u "()V"), (1, .class_ 10), (1, u "java/lang/Object")] 113

def k0m0 : Method := { name := "<init>", desc := "()V", sig := { parameters := [], returnType := none }, accessFlags := 1, code := none }
/-- java/lang/Object -/
def k0 : Class := { plain "java/lang/Object" none with
  accessFlags := 33
  interfaces := #[]
  cf := some (fileOf pool0 8 #[] #[{ accessFlags := 1, nameIndex := 5, descriptorIndex := 6, attributes := #[] }] 33 0 #[] #[])
  fields := #[]
  methods := #[k0m0]
  instanceTypes := #[]
  staticTypes := #[]
  resolved := Array.replicate 124 none
  statics := none }

def pool1 : Array CpInfo := pool [(2, .class_ 4), (1, u "java/lang/Object"), (0, u "<init>"), (0, u "()V"), (0, .fieldref 8 9), (0, .class_ 10), (0, .nameAndType 11 12), (0, u "com/example/portwise/portwise/profile/process/Step$Party"), (0, u "DONOR"), (0, u "Lcom/example/portwise/portwise/profile/process/Step$Party;"), (0, .fieldref 8 14), (0, .nameAndType 15 12), (0, u "RECIPIENT"), (0, .methodref 8 17), (0, .nameAndType 18 19), (0, u "other"), (0, u "()Lcom/example/portwise/portwise/profile/process/Step$Party;"), (0, .class_ 21), (0, u "com/example/portwise/portwise/profile/process/PartyOtherPinLaw"), (2, u "law"), (0, u "(I)Z")] 7

def k1m0 : Method := { name := "<init>", desc := "()V", sig := { parameters := [], returnType := none }, accessFlags := 2, code := none }
def k1c1 : Code := { maxStack := 2, maxLocals := 3, code := code, exceptionTable := #[], attributes := #[] }
def k1m1 : Method := { name := "law", desc := "(I)Z", sig := { parameters := [.int], returnType := some .boolean }, accessFlags := 9, code := some k1c1 }
/-- com/example/portwise/portwise/profile/process/PartyOtherPinLaw -/
def k1 : Class := { plain "com/example/portwise/portwise/profile/process/PartyOtherPinLaw" (some 0) with
  accessFlags := 49
  interfaces := #[]
  cf := some (fileOf pool1 20 #[] #[{ accessFlags := 2, nameIndex := 5, descriptorIndex := 6, attributes := #[] }, { accessFlags := 9, nameIndex := 24, descriptorIndex := 25, attributes := #[] }] 49 2 #[] #[])
  fields := #[]
  methods := #[k1m0, k1m1]
  instanceTypes := #[]
  staticTypes := #[]
  resolved := Array.replicate 33 none
  statics := none }

def pool2 : Array CpInfo := pool [(1, .class_ 2), (0, u "java/lang/constant/Constable"), (0, .class_ 4), (0, u "java/lang/Object")] 6

/-- java/lang/constant/Constable -/
def k2 : Class := { plain "java/lang/constant/Constable" (some 0) with
  accessFlags := 1537
  interfaces := #[]
  cf := some (fileOf pool2 1 #[] #[] 1537 3 #[] #[])
  fields := #[]
  methods := #[]
  instanceTypes := #[]
  staticTypes := #[]
  resolved := Array.replicate 11 none
  statics := none }

def pool3 : Array CpInfo := pool [(1, .class_ 2), (0, u "java/lang/Comparable"), (0, .class_ 4), (0, u "java/lang/Object")] 7

/-- java/lang/Comparable -/
def k3 : Class := { plain "java/lang/Comparable" (some 0) with
  accessFlags := 1537
  interfaces := #[]
  cf := some (fileOf pool3 1 #[] #[] 1537 3 #[] #[])
  fields := #[]
  methods := #[]
  instanceTypes := #[]
  staticTypes := #[]
  resolved := Array.replicate 12 none
  statics := none }

def pool4 : Array CpInfo := pool [(1, .class_ 2), (0, u "java/io/Serializable"), (0, .class_ 4), (0, u "java/lang/Object")] 2

/-- java/io/Serializable -/
def k4 : Class := { plain "java/io/Serializable" (some 0) with
  accessFlags := 1537
  interfaces := #[]
  cf := some (fileOf pool4 1 #[] #[] 1537 3 #[] #[])
  fields := #[]
  methods := #[]
  instanceTypes := #[]
  staticTypes := #[]
  resolved := Array.replicate 7 none
  statics := none }

def pool5 : Array CpInfo := pool [(2, .class_ 4), (1, u "java/lang/Enum"), (0, u "name"), (0, u "Ljava/lang/String;"), (2, u "ordinal"), (0, u "I"), (1, .class_ 14), (1, u "java/lang/Object"), (4, u "hash"), (86, .class_ 108), (1, u "java/lang/Enum$EnumDesc"), (2, .class_ 112), (0, u "java/lang/constant/Constable"), (0, .class_ 114), (0, u "java/lang/Comparable"), (0, .class_ 116), (0, u "java/io/Serializable")] 87

/-- java/lang/Enum -/
def k5 : Class := { plain "java/lang/Enum" (some 0) with
  accessFlags := 1057
  interfaces := #[2, 3, 4]
  cf := some (fileOf pool5 2 #[.nestMembers #[106]] #[] 1057 12 #[111, 113, 115] #[{ accessFlags := 18, nameIndex := 5, descriptorIndex := 6, attributes := #[] }, { accessFlags := 18, nameIndex := 9, descriptorIndex := 10, attributes := #[] }, { accessFlags := 2, nameIndex := 19, descriptorIndex := 10, attributes := #[] }])
  fields := #[{ name := "name", type := (.object "java/lang/String"), accessFlags := 18, slot := 0, constantValue := 0 }, { name := "ordinal", type := .int, accessFlags := 18, slot := 1, constantValue := 0 }, { name := "hash", type := .int, accessFlags := 2, slot := 2, constantValue := 0 }]
  methods := #[]
  instanceTypes := #[(.object "java/lang/String"), .int, .int]
  staticTypes := #[]
  resolved := Array.replicate 204 none
  statics := none }

def pool6 : Array CpInfo := pool [(1, .class_ 2), (0, u "com/example/portwise/portwise/profile/process/Step$Party"), (0, .fieldref 1 4), (0, .nameAndType 5 6), (0, u "RECIPIENT"), (0, u "Lcom/example/portwise/portwise/profile/process/Step$Party;"), (0, .fieldref 1 8), (0, .nameAndType 9 6), (0, u "DONOR"), (2, u "$VALUES"), (0, u "[Lcom/example/portwise/portwise/profile/process/Step$Party;"), (6, .class_ 22), (1, u "java/lang/Enum"), (54, u "other"), (0, u "()Lcom/example/portwise/portwise/profile/process/Step$Party;"), (6, .class_ 86), (0, u "com/example/portwise/portwise/profile/process/Step")] 2

def k6c0 : Code := { maxStack := 2, maxLocals := 1, code := prog_101_method_5_code, exceptionTable := #[], attributes := #[] }
def k6m0 : Method := { name := "other", desc := "()Lcom/example/portwise/portwise/profile/process/Step$Party;", sig := { parameters := [], returnType := some (.object "com/example/portwise/portwise/profile/process/Step$Party") }, accessFlags := 0, code := some k6c0 }
/-- com/example/portwise/portwise/profile/process/Step$Party -/
def k6 : Class := { plain "com/example/portwise/portwise/profile/process/Step$Party" (some 5) with
  accessFlags := 16432
  interfaces := #[]
  cf := some (fileOf pool6 1 #[.nestHost 85] #[{ accessFlags := 0, nameIndex := 77, descriptorIndex := 78, attributes := #[] }] 16432 20 #[] #[{ accessFlags := 16409, nameIndex := 5, descriptorIndex := 6, attributes := #[] }, { accessFlags := 16409, nameIndex := 9, descriptorIndex := 6, attributes := #[] }, { accessFlags := 4122, nameIndex := 12, descriptorIndex := 13, attributes := #[] }])
  fields := #[{ name := "RECIPIENT", type := (.object "com/example/portwise/portwise/profile/process/Step$Party"), accessFlags := 16409, slot := 0, constantValue := 0 }, { name := "DONOR", type := (.object "com/example/portwise/portwise/profile/process/Step$Party"), accessFlags := 16409, slot := 1, constantValue := 0 }, { name := "$VALUES", type := (.array (.object "com/example/portwise/portwise/profile/process/Step$Party")), accessFlags := 4122, slot := 2, constantValue := 0 }]
  methods := #[k6m0]
  instanceTypes := #[(.object "java/lang/String"), .int, .int]
  staticTypes := #[(.object "com/example/portwise/portwise/profile/process/Step$Party"), (.object "com/example/portwise/portwise/profile/process/Step$Party"), (.array (.object "com/example/portwise/portwise/profile/process/Step$Party"))]
  resolved := Array.replicate 89 none
  statics := some 0 }

def pool7 : Array CpInfo := pool [(1, u "java/lang/Cloneable"), (0, .class_ 1), (0, u "java/lang/Object"), (0, .class_ 3)] 3

/-- java/lang/Cloneable -/
def k7 : Class := { plain "java/lang/Cloneable" (some 0) with
  accessFlags := 1537
  interfaces := #[]
  cf := some (fileOf pool7 2 #[] #[] 1537 4 #[] #[])
  fields := #[]
  methods := #[]
  instanceTypes := #[]
  staticTypes := #[]
  resolved := Array.replicate 8 none
  statics := none }

/-- the primitive byte -/
def k8 : Class := { plain "byte" none with kind := .primitive 'B', accessFlags := 0x411 }
/-- [B -/
def k9 : Class := { plain "[B" (some 0) with kind := .array 8 .byte, interfaces := #[7, 4], accessFlags := 1041 }

def heap : Heap := #[{ cls := 6, slots := #[.ref 1, .ref 2, .null], vm := .statics 6 },
  { cls := 6, slots := #[.null, .int 0, .int 0], vm := .none },
  { cls := 6, slots := #[.null, .int 1, .int 0], vm := .none }]
def classes : Array Class := #[k0, k1, k2, k3, k4, k5, k6, k7, k8, k9]
def interned : List (Array UInt16 × Addr) := []
def slotsUsed : Nat := 9
def theMethod : MethodId := ⟨1, 1⟩
def args0 : Array Value := #[.int 5]
def aboutOver (below : List Frame) : State where
  vm := { classes := classes, interned := interned.toArray }
  heap := heap
  slotsUsed := slotsUsed
  threads := #[{ frames := .invoking theMethod args0 :: below }]
def below0 : List Frame := [.native { method := ⟨0, 0⟩, args := #[] }]
def about1 : State := aboutOver below0
def p0 : Program := .bare "" "" ""
def e0 : Env := launch0.env 0 0 0
theorem w_frames : about1.frames = Frame.invoking theMethod args0 :: below0 := rfl
set_option maxRecDepth 65536 in
theorem w_args : argsFit about1.vm theMethod args0 = true := by decide +kernel
set_option maxRecDepth 65536 in
theorem w_heap : heapFits about1 = true := by decide +kernel
set_option maxRecDepth 65536 in
theorem w_runnable : about1.curStatus? = some .runnable := by decide +kernel
set_option maxRecDepth 65536 in
theorem w_alone : about1.alone = true := by decide +kernel
set_option maxRecDepth 65536 in
theorem w_named : about1.methodNamed? x = some theMethod := by decide +kernel
set_option maxRecDepth 65536 in
theorem w_hears : about1.hears theMethod below0 = true := by decide +kernel
set_option maxRecDepth 65536 in
theorem w_ripe : about1.ripe theMethod args0 below0 = true := by decide +kernel
theorem w_running : about1.status = .running := rfl
set_option maxRecDepth 65536 in
theorem w_room : about1.hasRoom e0.platform room_1 = true :=
  launch0.hasRoom_least _ room_1 (by decide +kernel) (by decide +kernel) (by decide +kernel) (by decide +kernel) (by decide +kernel) (by decide +kernel)
theorem allAtoms_all (ts : List Jvm.Cond) (a : Array Jvm.Value) (st : Jvm.State) : (allAtoms ts).before a st = ts.all (fun c => c.before a st) := by
  induction ts with
  | nil => rfl
  | cons c t ih =>
    show (Jvm.Cond.and c (allAtoms t)).before a st = _
    rw [Jvm.Cond.before_and, ih, List.all_cons]
def words1 : List Jvm.Cond := Jvm.Cond.code x code maxLocals ret :: tables_1
/-- a 'code' word, met by the world's own term for the bytes: nothing is compared byte by byte -/
theorem code_word {y : MethodName} {bytes : ByteArray} {mx : Nat} {rt : Option FieldType} {a : Array Value} {s : State} {m : MethodId} {meth : Method} {c : Code} (h1 : s.methodNamed? y = some m) (h2 : s.vm.method? m = some meth) (h3 : meth.code = some c) (h4 : c.code = bytes)
    (h5 : (c.maxLocals == mx && c.exceptionTable.isEmpty && decide (c.maxStack ≤ mostOperands) && decide (meth.sig.returnType = rt) && !meth.locks && decide (parseMethodDescriptor y.desc = some meth.sig)) = true) : (Jvm.Cond.code y bytes mx rt).before a s = true := by
  simp only [Bool.and_eq_true, beq_iff_eq, Bool.not_eq_true', decide_eq_true_eq] at h5
  obtain ⟨⟨⟨⟨⟨g1, g2⟩, g3⟩, g4⟩, g5⟩, g6⟩ := h5
  simp [Cond.before, Cond.holds, Cond.value, h1, h2, h3, h4, g1, g2, g3, g4, g5, g6]
def isCode : Jvm.Cond → Bool
  | .code _ _ _ _ => true
  | _ => false
theorem all_split {L : List Jvm.Cond} {P : Jvm.Cond → Bool} (h1 : L.all (fun c => isCode c || P c) = true) (h2 : ∀ c ∈ L.filter isCode, P c = true) : L.all P = true := by
  refine List.all_eq_true.mpr fun c hc => ?_
  have h := List.all_eq_true.mp h1 c hc
  rcases Bool.eq_false_or_eq_true (isCode c) with hi | hi
  · exact h2 c (List.mem_filter.mpr ⟨hc, hi⟩)
  · simpa [hi] using h
set_option maxRecDepth 65536 in
theorem w_c0 : (Jvm.Cond.code x code maxLocals ret).before args0 about1 = true := code_word (m := ⟨1, 1⟩) (meth := k1m1) (c := k1c1) (by decide +kernel) rfl rfl rfl (by decide +kernel)
set_option maxRecDepth 65536 in
theorem w_c1 : (Jvm.Cond.code ({ cls := "com/example/portwise/portwise/profile/process/Step$Party", name := "other", desc := "()Lcom/example/portwise/portwise/profile/process/Step$Party;" } : Jvm.MethodName) prog_101_method_5_code (1 : Nat) (Option.some (Jvm.ClassFile.FieldType.object "com/example/portwise/portwise/profile/process/Step$Party"))).before args0 about1 = true := code_word (m := ⟨6, 0⟩) (meth := k6m0) (c := k6c0) (by decide +kernel) rfl rfl rfl (by decide +kernel)
def codes1 : List Jvm.Cond := [Jvm.Cond.code x code maxLocals ret, Jvm.Cond.code ({ cls := "com/example/portwise/portwise/profile/process/Step$Party", name := "other", desc := "()Lcom/example/portwise/portwise/profile/process/Step$Party;" } : Jvm.MethodName) prog_101_method_5_code (1 : Nat) (Option.some (Jvm.ClassFile.FieldType.object "com/example/portwise/portwise/profile/process/Step$Party"))]
set_option maxRecDepth 65536 in
theorem codes_eq : words1.filter isCode = codes1 := rfl
theorem w_codes : ∀ c ∈ words1.filter isCode, c.before args0 about1 = true := by
  rw [codes_eq]
  intro c hc
  simp only [codes1, List.mem_cons, List.not_mem_nil, or_false] at hc
  rcases hc with rfl | rfl
  · exact w_c0
  · exact w_c1
set_option maxRecDepth 65536 in
theorem w_t1 : words1.all (fun c => isCode c || c.before args0 about1) = true := by decide +kernel
theorem w_tables : (allAtoms (Jvm.Cond.code x code maxLocals ret :: tables_1)).before args0 about1 = true := by
  rw [allAtoms_all]
  show words1.all (fun c => c.before args0 about1) = true
  refine all_split ?_ w_codes
  rw [w_t1]
set_option maxRecDepth 65536 in
theorem w_case : (Jvm.Cond.and given_1 narrow_1).before args0 about1 = true := by decide +kernel
theorem w_applies : (headSpec (Jvm.Cond.code x code maxLocals ret :: tables_1) room_1).applies x e0.platform about1 = true :=
  (Spec.applies_iff w_frames).mpr ⟨w_running, w_runnable, w_alone, w_named, w_hears, w_ripe, w_room, w_tables⟩
theorem atStart : AtStart classFile x code maxLocals ret World_1 tables_1 room_1 Calls_1 rest_1 Pre_1 launch0 p0 e0 about1 theMethod args0 below0 :=
  ⟨lists_1, trivial, launch0.admits_env _ _ _, launch0.least_env, fairChoices_fair.cas, fairChoices_fair.clock, w_frames, w_args, w_heap, w_applies, trivial, trivial, w_case⟩
end start1
theorem witness_1 : WitnessClaimed_1 := ⟨start1.p0, start1.e0, start1.about1, start1.theMethod, start1.args0, start1.below0, start1.atStart⟩
end Jvm.Pilot.@@N@@
