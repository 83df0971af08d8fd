import JvmDerived
import JvmDerived.Pilot.@@N@@Statement
import JvmDerived.Pilot.@@N@@Code
set_option linter.unusedVariables false
set_option linter.unusedSimpArgs false
@@BLOCK:NumsL.lean.txt@@
namespace Jvm.Pilot.@@N@@
open Jvm Jvm.ClassFile Sem Op Lib Jvm.Free Jvm.Stand Jvm.LawKit Jvm.RoadKit Bundle Jvm.Pilot.@@N@@.Jvm.D
/-! the run comes from here to an end at which Q holds -/
def own_Comes (p : Program) (e : Env) (below : List Frame) (Q : Outcome → State → Prop) (T : State) (f : JFrame) : Prop :=
  ∃ s₂ o, Steps p.tables e below (T.setTop f) s₂ ∧ s₂.status = .running ∧ Ended s₂ below o ∧ Q o s₂
theorem own_lift {p : Program} {e : Env} {below : List Frame} {Q : Outcome → State → Prop} {T T' : State} {f f' : JFrame} (st : ∀ t, Steps p.tables e below (T'.setTop f') t → Steps p.tables e below (T.setTop f) t) (h : own_Comes p e below Q T' f') : own_Comes p e below Q T f := by
  obtain ⟨s₂, o, a, b⟩ := h
  exact ⟨s₂, o, st _ a, b⟩
theorem own_start {p : Program} {e : Env} {below : List Frame} {Q : Outcome → State → Prop} {T : State} {g g' : JFrame} (q : g = g') (h : own_Comes p e below Q T g') : ∃ s₂ o, Steps p.tables e below (T.setTop g) s₂ ∧ s₂.status = .running ∧ Ended s₂ below o ∧ Q o s₂ := by
  subst q; exact h
/-! what a body that writes and makes nothing leaves -/
def own_Q (val : Value) (h0 : Heap) (v : Option Value) (h : Heap) (L : List Loc) : Prop := v = some val ∧ L = [] ∧ h = h0
def own_End (val : Value) (h0 : Heap) (s : State) (R : Room) (o : Outcome) (U' : State) : Prop := ∃ v L, o = .returned v ∧ own_Q val h0 v U'.heap L ∧ FrameEnd s o U' L R.cells R.slots
section OwnRet
variable {p : Program} {l : Launch} {e : Env} {R : Room} {s : State} {m : MethodId} {args : Array Value} {below : List Frame} {meth : Method} {c : Code} {T : State}
theorem own_ret (X : Stand p l e R s m args below meth c T [] 0 0) (hx : p.tables.exec = Jvm.exec) (hlk : meth.locks = false) {pc : Nat} {Ls : Array Slot} {w : Value} {t : FieldType} {i : Instr} {rest : List Value} (hret : meth.sig.returnType = some t) (hn : narrow t w = w)
    (hi : (i = .ireturn ∧ (t = .int ∨ t = .boolean ∨ t = .byte ∨ t = .char ∨ t = .short) ∧ ∃ z, w = .int z) ∨ (i = .lreturn ∧ t = .long ∧ ∃ z, w = .long z) ∨ (i = .dreturn ∧ t = .double ∧ ∃ z, w = .double z) ∨ (i = .freturn ∧ t = .float ∧ ∃ z, w = .float z) ∨ (i = .areturn ∧ t.isReference = true ∧ w.isRef = true))
    (hd : decode c.code pc = .ok (i, 1)) {h0 : Heap} (eT : T.heap = h0) {val : Value} (hval : val = w) : own_Comes p e below (own_End val h0 s R) T (mkF m pc Ls (w :: rest)) := by
  subst hval
  obtain ⟨fs, hr, hrun, hended, hW, hsame⟩ := X.leave (v := some val) (fun h => by rw [hret] at h; cases h) hlk
  exact ⟨_, _, retOut X hx hret hn hi hd hr, hrun, hended, _, _, rfl, ⟨rfl, rfl, eT⟩, ⟨_, rfl⟩, hW, hsame.mono (Nat.zero_le _) (Nat.zero_le _)⟩
theorem own_retZ (X : Stand p l e R s m args below meth c T [] 0 0) (hx : p.tables.exec = Jvm.exec) (hlk : meth.locks = false) {pc : Nat} {Ls : Array Slot} {z : Int32} {rest : List Value} (hret : meth.sig.returnType = some .boolean) (hd : decode c.code pc = .ok (.ireturn, 1)) {h0 : Heap} (eT : T.heap = h0) (hz : z &&& 1 = z) {val : Value} (hval : val = .int z) : own_Comes p e below (own_End val h0 s R) T (mkF m pc Ls (.int z :: rest)) :=
  own_ret X hx hlk hret (by show Value.int (z &&& 1) = .int z; rw [hz]) (Or.inl ⟨rfl, by simp, z, rfl⟩) hd eT hval
theorem own_retI (X : Stand p l e R s m args below meth c T [] 0 0) (hx : p.tables.exec = Jvm.exec) (hlk : meth.locks = false) {pc : Nat} {Ls : Array Slot} {z : Int32} {rest : List Value} (hret : meth.sig.returnType = some .int) (hd : decode c.code pc = .ok (.ireturn, 1)) {h0 : Heap} (eT : T.heap = h0) {val : Value} (hval : val = .int z) : own_Comes p e below (own_End val h0 s R) T (mkF m pc Ls (.int z :: rest)) :=
  own_ret X hx hlk hret rfl (Or.inl ⟨rfl, by simp, z, rfl⟩) hd eT hval
theorem own_retA (X : Stand p l e R s m args below meth c T [] 0 0) (hx : p.tables.exec = Jvm.exec) (hlk : meth.locks = false) {pc : Nat} {Ls : Array Slot} {w : Value} {C : String} {rest : List Value} (hret : meth.sig.returnType = some (.object C)) (hd : decode c.code pc = .ok (.areturn, 1)) {h0 : Heap} (eT : T.heap = h0) (hw : w.isRef = true) {val : Value} (hval : val = w) : own_Comes p e below (own_End val h0 s R) T (mkF m pc Ls (w :: rest)) :=
  own_ret X hx hlk hret rfl (Or.inr (Or.inr (Or.inr (Or.inr ⟨rfl, rfl, hw⟩)))) hd eT hval
end OwnRet
/-! what a case says of a field of an object, as a value -/
theorem own_fld {args : Array Value} {s : State} {t : Term} {C n d : String} {a : Addr} {k : Int32} (ev : t.eval args s none [] s = some (.ref a)) (h : (Jvm.Cond.eq (.field t C n d) (.int k)).value args s none s [] = some true) : s.fieldOf? a C n d = some (.int k) := by
  obtain ⟨x, y, hx, hy, -, hk⟩ := cmp_v (Or.inl h)
  have hy2 : some (Value.int k) = some y := (Term.int_eval k).symm.trans hy
  cases hy2
  obtain ⟨z, rfl⟩ : ∃ z, x = .int z := hk
  have q : (Jvm.Cond.eq (.field t C n d) (.int k)).value args s none s [] = some (decide (z = k)) := by simp [Cond.value, hx, hy]
  obtain rfl : z = k := gotT q h
  rw [fld_at ev] at hx; exact hx
theorem own_idx (x m : Int32) (hm : 0 < m.toInt) : ∃ j : Nat, (j : Int) < m.toInt ∧ (x &&& (2147483647 : Int32)) % m = Int32.ofNat j := by
  have e1 : (x &&& (2147483647 : Int32)).toInt = x.toInt % 2 ^ 31 := Jvm.Kit.i32_mask x 2147483647 (k := 31) (by decide) (by decide)
  have e2 : ((x &&& (2147483647 : Int32)) % m).toInt = (x &&& (2147483647 : Int32)).toInt % m.toInt := Jvm.Kit.i32_rem_nonneg (by omega)
  have h1 : 0 ≤ (x &&& (2147483647 : Int32)).toInt % m.toInt := Int.emod_nonneg _ (by omega)
  have h2 : (x &&& (2147483647 : Int32)).toInt % m.toInt < m.toInt := Int.emod_lt_of_pos _ hm
  have h3 := m.toInt_lt
  refine ⟨((x &&& (2147483647 : Int32)) % m).toInt.toNat, by omega, ?_⟩
  apply Int32.toInt_inj.mp
  have q' : (Int32.ofNat ((x &&& (2147483647 : Int32)) % m).toInt.toNat).toInt = (((x &&& (2147483647 : Int32)) % m).toInt.toNat : Int) := len_toInt (by omega)
  omega
def own_kind (k : Int32) (wO wF wP wR : Addr) : Value := if k = 0 then .ref wO else if k = 1 then .ref wF else if k = 2 then .ref wP else if k = 3 then .ref wR else .null
def own_bit (c p : Int32) : Int32 := (((3168 : Int32).toUInt32 >>> (((c * (5 : Int32)) + p) &&& 31).toUInt32).toInt32) &&& (1 : Int32)
def own_got (a1 : Addr) (pv : Value) (wO wF wP : Addr) : Int32 := if (a1 = wF ∨ a1 = wP) ∧ (pv = .ref wO ∨ pv = .ref wF) then 1 else 0
theorem d1_0 : decode method_2_code 0 = .ok (.iload_n 0, 1) := by decide +kernel
theorem d1_1 : decode method_2_code 1 = .ok (.ifCond .ne 7, 3) := by decide +kernel
theorem d1_4 : decode method_2_code 4 = .ok (.getstatic 7, 3) := by decide +kernel
theorem d1_7 : decode method_2_code 7 = .ok (.areturn, 1) := by decide +kernel
theorem d1_8 : decode method_2_code 8 = .ok (.iload_n 0, 1) := by decide +kernel
theorem d1_9 : decode method_2_code 9 = .ok (.iconst 1, 1) := by decide +kernel
theorem d1_10 : decode method_2_code 10 = .ok (.if_icmp .ne 7, 3) := by decide +kernel
theorem d1_13 : decode method_2_code 13 = .ok (.getstatic 13, 3) := by decide +kernel
theorem d1_16 : decode method_2_code 16 = .ok (.areturn, 1) := by decide +kernel
theorem d1_17 : decode method_2_code 17 = .ok (.iload_n 0, 1) := by decide +kernel
theorem d1_18 : decode method_2_code 18 = .ok (.iconst 2, 1) := by decide +kernel
theorem d1_19 : decode method_2_code 19 = .ok (.if_icmp .ne 7, 3) := by decide +kernel
theorem d1_22 : decode method_2_code 22 = .ok (.getstatic 16, 3) := by decide +kernel
theorem d1_25 : decode method_2_code 25 = .ok (.areturn, 1) := by decide +kernel
theorem d1_26 : decode method_2_code 26 = .ok (.iload_n 0, 1) := by decide +kernel
theorem d1_27 : decode method_2_code 27 = .ok (.iconst 3, 1) := by decide +kernel
theorem d1_28 : decode method_2_code 28 = .ok (.if_icmp .ne 7, 3) := by decide +kernel
theorem d1_31 : decode method_2_code 31 = .ok (.getstatic 19, 3) := by decide +kernel
theorem d1_34 : decode method_2_code 34 = .ok (.areturn, 1) := by decide +kernel
theorem d1_35 : decode method_2_code 35 = .ok (.aconst_null, 1) := by decide +kernel
theorem d1_36 : decode method_2_code 36 = .ok (.areturn, 1) := by decide +kernel
theorem pn_1 : plainName "com/example/bindery/bindery/core/KindMayBeCreatedUnderPinLaw" = true := by first | (simp [plainName, overriddenIn]; done) | decide +kernel
theorem pd_1 : parseMethodDescriptor "(I)Lcom/example/bindery/bindery/core/ResourceName$Kind;" = some ⟨[.int], some (.object "com/example/bindery/bindery/core/ResourceName$Kind")⟩ := by decide +kernel
theorem ef_1 (m : MethodId) (x0 : Int32)  : entryFrame m #[(.int x0)] 1 = mkF m 0 #[.val (.int x0)] [] := by first | (simp [entryFrame, mkF, argsToLocals, Value.category]; done) | rfl
set_option maxRecDepth 65536 in
set_option maxHeartbeats 40000000 in
theorem rm1 (l : Launch) (Z : State) (a0 : Array Value) (hw : ∀ d ∈ tables_1, d.before a0 Z = true) (ws : List Jvm.Cond) (k : Int32) (wO wF wP wR : Addr) (val : Value) (h0 : Heap) (S_ORGANIZATION : Sta Z h0 "com/example/bindery/bindery/core/ResourceName$Kind" "ORGANIZATION" "Lcom/example/bindery/bindery/core/ResourceName$Kind;" (.ref wO)) (S_FOLDER : Sta Z h0 "com/example/bindery/bindery/core/ResourceName$Kind" "FOLDER" "Lcom/example/bindery/bindery/core/ResourceName$Kind;" (.ref wF)) (S_PROJECT : Sta Z h0 "com/example/bindery/bindery/core/ResourceName$Kind" "PROJECT" "Lcom/example/bindery/bindery/core/ResourceName$Kind;" (.ref wP)) (S_PROJECT_RESOURCE : Sta Z h0 "com/example/bindery/bindery/core/ResourceName$Kind" "PROJECT_RESOURCE" "Lcom/example/bindery/bindery/core/ResourceName$Kind;" (.ref wR)) (hv : val = own_kind k wO wF wP wR) :
    MetFree l (⟨"com/example/bindery/bindery/core/KindMayBeCreatedUnderPinLaw", "kindOf", "(I)Lcom/example/bindery/bindery/core/ResourceName$Kind;"⟩ : MethodName) (head1 (Jvm.Cond.code (⟨"com/example/bindery/bindery/core/KindMayBeCreatedUnderPinLaw", "kindOf", "(I)Lcom/example/bindery/bindery/core/ResourceName$Kind;"⟩ : MethodName) method_2_code 1 (some (.object "com/example/bindery/bindery/core/ResourceName$Kind")) :: ws) ({ frames := 0, cells := 0, slots := 0, locals := 0 } : Room)) (fun a U => a = #[(.int k)] ∧ Z.Warmed39 U.vm ∧ U.heap = h0) (fun _ _ _ _ _ => True) (fun _ U o U' => ∃ v L, o = .returned v ∧ own_Q val h0 v U'.heap L ∧ FrameEnd U o U' L ({ frames := 0, cells := 0, slots := 0, locals := 0 } : Room).cells ({ frames := 0, cells := 0, slots := 0, locals := 0 } : Room).slots) := by
  refine MetFree.of_bodySF (plainFor_of_name pn_1) hisR ?_
  intro p e s m args below meth c s₁ Bd hml0 hP hK
  obtain ⟨rfl, hZ, hh⟩ := hP
  have hx := Bd.exec
  have hby := Bd.bytes
  have hml : c.maxLocals = 1 := hml0
  have hown : s.vm.findClass "com/example/bindery/bindery/core/KindMayBeCreatedUnderPinLaw" = some m.cls := findClass_of_methodNamed Bd.named
  have hlk : meth.locks = false := BodyLoose.notSynchronized Bd
  have X0 : Stand p l e ({ frames := 0, cells := 0, slots := 0, locals := 0 } : Room) s m #[(.int k)] below meth c s₁ [] 0 0 := Stand.of_body Bd
  have e0 : s₁.heap = h0 := by rw [← hh, Bd.state]; rfl
  refine own_start (Q := own_End val h0 s ({ frames := 0, cells := 0, slots := 0, locals := 0 } : Room)) (ef_1 m k) ?_
  refine own_lift (T' := s₁) (f' := (mkF m 1 #[.val (.int k)] [(.int k)])) (fun _ k => XS.iloadN X0.here hx rfl (hb hby d1_0) rfl k) ?_
  by_cases k0 : k = (0 : Int32)
  · refine own_lift (T' := s₁) (f' := (mkF m 4 #[.val (.int k)] [])) (fun _ k => XS.ifNo X0.here hx rfl (hb hby d1_1) rfl ((if0 _ _).trans (teq k0).2) k) ?_
    obtain ⟨T1, X1, e1, st1⟩ := getS2 X0 hx hZ hown (host := "") (Or.inl (hw _ (List.mem_of_getElem? (i := 5) rfl))) Via.refl e0 S_ORGANIZATION (g := (mkF m 4 #[.val (.int k)] [])) rfl (hb hby d1_4)
    refine own_lift (T' := T1) (f' := (mkF m 7 #[.val (.int k)] [(.ref wO)])) (st1) ?_
    exact own_retA X1 hx hlk Bd.returns (hb hby d1_7) e1 rfl (by simp [hv, own_kind, k0])
  · refine own_lift (T' := s₁) (f' := (mkF m 8 #[.val (.int k)] [])) (fun _ k => XS.ifYes X0.here hx rfl (pc0 := 1) (pc' := 8) rfl (hb hby d1_1) rfl ((if0 _ _).trans (feq k0).2) (by decide) (by decide) k) ?_
    refine own_lift (T' := s₁) (f' := (mkF m 9 #[.val (.int k)] [(.int k)])) (fun _ k => XS.iloadN X0.here hx rfl (hb hby d1_8) rfl k) ?_
    refine own_lift (T' := s₁) (f' := (mkF m 10 #[.val (.int k)] [(.int (1 : Int32)), (.int k)])) (fun _ k => XS.iconst X0.here hx rfl (hb hby d1_9) k) ?_
    by_cases k1 : k = (1 : Int32)
    · refine own_lift (T' := s₁) (f' := (mkF m 13 #[.val (.int k)] [])) (fun _ k => XS.icmpNo X0.here hx rfl (hb hby d1_10) rfl (teq k1).2 k) ?_
      obtain ⟨T2, X2, e2, st2⟩ := getS2 X0 hx hZ hown (host := "") (Or.inl (hw _ (List.mem_of_getElem? (i := 20) rfl))) Via.refl e0 S_FOLDER (g := (mkF m 13 #[.val (.int k)] [])) rfl (hb hby d1_13)
      refine own_lift (T' := T2) (f' := (mkF m 16 #[.val (.int k)] [(.ref wF)])) (st2) ?_
      exact own_retA X2 hx hlk Bd.returns (hb hby d1_16) e2 rfl (by simp [hv, own_kind, k1])
    · refine own_lift (T' := s₁) (f' := (mkF m 17 #[.val (.int k)] [])) (fun _ k => XS.icmpYes X0.here hx rfl (pc0 := 10) (pc' := 17) rfl (hb hby d1_10) rfl (feq k1).2 (by decide) (by decide) k) ?_
      refine own_lift (T' := s₁) (f' := (mkF m 18 #[.val (.int k)] [(.int k)])) (fun _ k => XS.iloadN X0.here hx rfl (hb hby d1_17) rfl k) ?_
      refine own_lift (T' := s₁) (f' := (mkF m 19 #[.val (.int k)] [(.int (2 : Int32)), (.int k)])) (fun _ k => XS.iconst X0.here hx rfl (hb hby d1_18) k) ?_
      by_cases k2 : k = (2 : Int32)
      · refine own_lift (T' := s₁) (f' := (mkF m 22 #[.val (.int k)] [])) (fun _ k => XS.icmpNo X0.here hx rfl (hb hby d1_19) rfl (teq k2).2 k) ?_
        obtain ⟨T3, X3, e3, st3⟩ := getS2 X0 hx hZ hown (host := "") (Or.inl (hw _ (List.mem_of_getElem? (i := 19) rfl))) Via.refl e0 S_PROJECT (g := (mkF m 22 #[.val (.int k)] [])) rfl (hb hby d1_22)
        refine own_lift (T' := T3) (f' := (mkF m 25 #[.val (.int k)] [(.ref wP)])) (st3) ?_
        exact own_retA X3 hx hlk Bd.returns (hb hby d1_25) e3 rfl (by simp [hv, own_kind, k2])
      · refine own_lift (T' := s₁) (f' := (mkF m 26 #[.val (.int k)] [])) (fun _ k => XS.icmpYes X0.here hx rfl (pc0 := 19) (pc' := 26) rfl (hb hby d1_19) rfl (feq k2).2 (by decide) (by decide) k) ?_
        refine own_lift (T' := s₁) (f' := (mkF m 27 #[.val (.int k)] [(.int k)])) (fun _ k => XS.iloadN X0.here hx rfl (hb hby d1_26) rfl k) ?_
        refine own_lift (T' := s₁) (f' := (mkF m 28 #[.val (.int k)] [(.int (3 : Int32)), (.int k)])) (fun _ k => XS.iconst X0.here hx rfl (hb hby d1_27) k) ?_
        by_cases k3 : k = (3 : Int32)
        · refine own_lift (T' := s₁) (f' := (mkF m 31 #[.val (.int k)] [])) (fun _ k => XS.icmpNo X0.here hx rfl (hb hby d1_28) rfl (teq k3).2 k) ?_
          obtain ⟨T4, X4, e4, st4⟩ := getS2 X0 hx hZ hown (host := "") (Or.inl (hw _ (List.mem_of_getElem? (i := 8) rfl))) Via.refl e0 S_PROJECT_RESOURCE (g := (mkF m 31 #[.val (.int k)] [])) rfl (hb hby d1_31)
          refine own_lift (T' := T4) (f' := (mkF m 34 #[.val (.int k)] [(.ref wR)])) (st4) ?_
          exact own_retA X4 hx hlk Bd.returns (hb hby d1_34) e4 rfl (by simp [hv, own_kind, k3])
        · refine own_lift (T' := s₁) (f' := (mkF m 35 #[.val (.int k)] [])) (fun _ k => XS.icmpYes X0.here hx rfl (pc0 := 28) (pc' := 35) rfl (hb hby d1_28) rfl (feq k3).2 (by decide) (by decide) k) ?_
          refine own_lift (T' := s₁) (f' := (mkF m 36 #[.val (.int k)] [.null])) (fun _ k => XS.aconstNull X0.here hx rfl (hb hby d1_35) k) ?_
          exact own_retA X0 hx hlk Bd.returns (hb hby d1_36) e0 rfl (by simp [hv, own_kind, k0, k1, k2, k3])
theorem d2_0 : decode prog_13_method_4_code 0 = .ok (.aload_n 0, 1) := by decide +kernel
theorem d2_1 : decode prog_13_method_4_code 1 = .ok (.getstatic 7, 3) := by decide +kernel
theorem d2_4 : decode prog_13_method_4_code 4 = .ok (.if_acmp .eq 10, 3) := by decide +kernel
theorem d2_7 : decode prog_13_method_4_code 7 = .ok (.aload_n 0, 1) := by decide +kernel
theorem d2_8 : decode prog_13_method_4_code 8 = .ok (.getstatic 10, 3) := by decide +kernel
theorem d2_11 : decode prog_13_method_4_code 11 = .ok (.if_acmp .ne 21, 3) := by decide +kernel
theorem d2_14 : decode prog_13_method_4_code 14 = .ok (.aload_n 1, 1) := by decide +kernel
theorem d2_15 : decode prog_13_method_4_code 15 = .ok (.getstatic 3, 3) := by decide +kernel
theorem d2_18 : decode prog_13_method_4_code 18 = .ok (.if_acmp .eq 10, 3) := by decide +kernel
theorem d2_21 : decode prog_13_method_4_code 21 = .ok (.aload_n 1, 1) := by decide +kernel
theorem d2_22 : decode prog_13_method_4_code 22 = .ok (.getstatic 7, 3) := by decide +kernel
theorem d2_25 : decode prog_13_method_4_code 25 = .ok (.if_acmp .ne 7, 3) := by decide +kernel
theorem d2_28 : decode prog_13_method_4_code 28 = .ok (.iconst 1, 1) := by decide +kernel
theorem d2_29 : decode prog_13_method_4_code 29 = .ok (.goto 4, 3) := by decide +kernel
theorem d2_32 : decode prog_13_method_4_code 32 = .ok (.iconst 0, 1) := by decide +kernel
theorem d2_33 : decode prog_13_method_4_code 33 = .ok (.ireturn, 1) := by decide +kernel
theorem pn_2 : plainName "com/example/bindery/bindery/core/ResourceName$Kind" = true := by first | (simp [plainName, overriddenIn]; done) | decide +kernel
theorem pd_2 : parseMethodDescriptor "(Lcom/example/bindery/bindery/core/ResourceName$Kind;)Z" = some ⟨[(.object "com/example/bindery/bindery/core/ResourceName$Kind")], some .boolean⟩ := by decide +kernel
theorem ef_2 (m : MethodId) (x0 : Addr) (x1 : Value) (hx1 : x1.isRef = true) : entryFrame m #[(.ref x0), x1] 2 = mkF m 0 #[.val (.ref x0), .val x1] [] := by rcases ref_cases hx1 with rfl | ⟨_, rfl⟩ <;> (first | (simp [entryFrame, mkF, argsToLocals, Value.category]; done) | rfl)
set_option maxRecDepth 65536 in
set_option maxHeartbeats 40000000 in
theorem rm2 (l : Launch) (Z : State) (a0 : Array Value) (hw : ∀ d ∈ tables_1, d.before a0 Z = true) (ws : List Jvm.Cond) (a1 : Addr) (pv : Value) (hpv : pv.isRef = true) (wO wF wP : Addr) (val : Int32) (h0 : Heap) (S_ORGANIZATION : Sta Z h0 "com/example/bindery/bindery/core/ResourceName$Kind" "ORGANIZATION" "Lcom/example/bindery/bindery/core/ResourceName$Kind;" (.ref wO)) (S_FOLDER : Sta Z h0 "com/example/bindery/bindery/core/ResourceName$Kind" "FOLDER" "Lcom/example/bindery/bindery/core/ResourceName$Kind;" (.ref wF)) (S_PROJECT : Sta Z h0 "com/example/bindery/bindery/core/ResourceName$Kind" "PROJECT" "Lcom/example/bindery/bindery/core/ResourceName$Kind;" (.ref wP)) (hv : val = own_got a1 pv wO wF wP) :
    MetFree l (⟨"com/example/bindery/bindery/core/ResourceName$Kind", "mayBeCreatedUnder", "(Lcom/example/bindery/bindery/core/ResourceName$Kind;)Z"⟩ : MethodName) (head1 (Jvm.Cond.code (⟨"com/example/bindery/bindery/core/ResourceName$Kind", "mayBeCreatedUnder", "(Lcom/example/bindery/bindery/core/ResourceName$Kind;)Z"⟩ : MethodName) prog_13_method_4_code 2 (some .boolean) :: ws) ({ frames := 0, cells := 0, slots := 0, locals := 0 } : Room)) (fun a U => a = #[(.ref a1), pv] ∧ Z.Warmed39 U.vm ∧ U.heap = h0) (fun _ _ _ _ _ => True) (fun _ U o U' => ∃ v L, o = .returned v ∧ own_Q (.int val) h0 v U'.heap L ∧ FrameEnd U o U' L ({ frames := 0, cells := 0, slots := 0, locals := 0 } : Room).cells ({ frames := 0, cells := 0, slots := 0, locals := 0 } : Room).slots) := by
  refine MetFree.of_bodySF (plainFor_of_name pn_2) hisR ?_
  intro p e s m args below meth c s₁ Bd hml0 hP hK
  obtain ⟨rfl, hZ, hh⟩ := hP
  have hx := Bd.exec
  have hby := Bd.bytes
  have hml : c.maxLocals = 2 := hml0
  have hown : s.vm.findClass "com/example/bindery/bindery/core/ResourceName$Kind" = some m.cls := findClass_of_methodNamed Bd.named
  have hlk : meth.locks = false := BodyLoose.notSynchronized Bd
  have X0 : Stand p l e ({ frames := 0, cells := 0, slots := 0, locals := 0 } : Room) s m #[(.ref a1), pv] below meth c s₁ [] 0 0 := Stand.of_body Bd
  have e0 : s₁.heap = h0 := by rw [← hh, Bd.state]; rfl
  refine own_start (Q := own_End (.int val) h0 s ({ frames := 0, cells := 0, slots := 0, locals := 0 } : Room)) (ef_2 m a1 pv hpv) ?_
  refine own_lift (T' := s₁) (f' := (mkF m 1 #[.val (.ref a1), .val pv] [(.ref a1)])) (fun _ k => XS.aloadN X0.here hx rfl (hb hby d2_0) rfl rfl k) ?_
  obtain ⟨T5, X5, e5, st5⟩ := getS2 X0 hx hZ hown (host := "") (Or.inl (hw _ (List.mem_of_getElem? (i := 15) rfl))) Via.refl e0 S_FOLDER (g := (mkF m 1 #[.val (.ref a1), .val pv] [(.ref a1)])) rfl (hb hby d2_1)
  refine own_lift (T' := T5) (f' := (mkF m 4 #[.val (.ref a1), .val pv] [(.ref wF), (.ref a1)])) (st5) ?_
  by_cases h1 : a1 = wF
  · refine own_lift (T' := T5) (f' := (mkF m 14 #[.val (.ref a1), .val pv] [])) (fun _ k => Jvm.RoadKit.acmp (g := (mkF m 4 #[.val (.ref a1), .val pv] [(.ref wF), (.ref a1)])) X5 hx rfl rfl rfl (pc0 := 4) (pc' := 14) (same := true) rfl (hb hby d2_4) rfl (decide_eq_true (congrArg Value.ref h1)) (by decide) (by decide) k) ?_
    refine own_lift (T' := T5) (f' := (mkF m 15 #[.val (.ref a1), .val pv] [pv])) (fun _ k => XS.aloadN X5.here hx rfl (hb hby d2_14) rfl hpv k) ?_
    obtain ⟨T6, X6, e6, st6⟩ := getS2 X5 hx hZ hown (host := "") (Or.inl (hw _ (List.mem_of_getElem? (i := 21) rfl))) Via.refl e5 S_ORGANIZATION (g := (mkF m 15 #[.val (.ref a1), .val pv] [pv])) rfl (hb hby d2_15)
    refine own_lift (T' := T6) (f' := (mkF m 18 #[.val (.ref a1), .val pv] [(.ref wO), pv])) (st6) ?_
    by_cases h3 : (pv : Value) = ((.ref wO) : Value)
    · refine own_lift (T' := T6) (f' := (mkF m 28 #[.val (.ref a1), .val pv] [])) (fun _ k => Jvm.RoadKit.acmp (g := (mkF m 18 #[.val (.ref a1), .val pv] [(.ref wO), pv])) X6 hx rfl hpv rfl (pc0 := 18) (pc' := 28) (same := true) rfl (hb hby d2_18) rfl (decide_eq_true h3) (by decide) (by decide) k) ?_
      refine own_lift (T' := T6) (f' := (mkF m 29 #[.val (.ref a1), .val pv] [(.int (1 : Int32))])) (fun _ k => XS.iconst X6.here hx rfl (hb hby d2_28) k) ?_
      refine own_lift (T' := T6) (f' := (mkF m 33 #[.val (.ref a1), .val pv] [(.int (1 : Int32))])) (fun _ k => XS.goto X6.here hx rfl (pc0 := 29) (pc' := 33) rfl (hb hby d2_29) (by decide) (by decide) k) ?_
      exact own_retZ X6 hx hlk Bd.returns (hb hby d2_33) e6 (by decide) (by simp [hv, own_got, h1, h3])
    · refine own_lift (T' := T6) (f' := (mkF m 21 #[.val (.ref a1), .val pv] [])) (fun _ k => Jvm.RoadKit.acmp (g := (mkF m 18 #[.val (.ref a1), .val pv] [(.ref wO), pv])) X6 hx rfl hpv rfl (pc0 := 18) (pc' := 21) (same := false) rfl (hb hby d2_18) rfl (decide_eq_false h3) (by decide) (by decide) k) ?_
      refine own_lift (T' := T6) (f' := (mkF m 22 #[.val (.ref a1), .val pv] [pv])) (fun _ k => XS.aloadN X6.here hx rfl (hb hby d2_21) rfl hpv k) ?_
      obtain ⟨T7, X7, e7, st7⟩ := getS2 X6 hx hZ hown (host := "") (Or.inl (hw _ (List.mem_of_getElem? (i := 15) rfl))) Via.refl e6 S_FOLDER (g := (mkF m 22 #[.val (.ref a1), .val pv] [pv])) rfl (hb hby d2_22)
      refine own_lift (T' := T7) (f' := (mkF m 25 #[.val (.ref a1), .val pv] [(.ref wF), pv])) (st7) ?_
      by_cases h4 : (pv : Value) = ((.ref wF) : Value)
      · refine own_lift (T' := T7) (f' := (mkF m 28 #[.val (.ref a1), .val pv] [])) (fun _ k => Jvm.RoadKit.acmp (g := (mkF m 25 #[.val (.ref a1), .val pv] [(.ref wF), pv])) X7 hx rfl hpv rfl (pc0 := 25) (pc' := 28) (same := true) rfl (hb hby d2_25) rfl (decide_eq_true h4) (by decide) (by decide) k) ?_
        refine own_lift (T' := T7) (f' := (mkF m 29 #[.val (.ref a1), .val pv] [(.int (1 : Int32))])) (fun _ k => XS.iconst X7.here hx rfl (hb hby d2_28) k) ?_
        refine own_lift (T' := T7) (f' := (mkF m 33 #[.val (.ref a1), .val pv] [(.int (1 : Int32))])) (fun _ k => XS.goto X7.here hx rfl (pc0 := 29) (pc' := 33) rfl (hb hby d2_29) (by decide) (by decide) k) ?_
        exact own_retZ X7 hx hlk Bd.returns (hb hby d2_33) e7 (by decide) (by simp [hv, own_got, h1, h3, h4])
      · refine own_lift (T' := T7) (f' := (mkF m 32 #[.val (.ref a1), .val pv] [])) (fun _ k => Jvm.RoadKit.acmp (g := (mkF m 25 #[.val (.ref a1), .val pv] [(.ref wF), pv])) X7 hx rfl hpv rfl (pc0 := 25) (pc' := 32) (same := false) rfl (hb hby d2_25) rfl (decide_eq_false h4) (by decide) (by decide) k) ?_
        refine own_lift (T' := T7) (f' := (mkF m 33 #[.val (.ref a1), .val pv] [(.int (0 : Int32))])) (fun _ k => XS.iconst X7.here hx rfl (hb hby d2_32) k) ?_
        exact own_retZ X7 hx hlk Bd.returns (hb hby d2_33) e7 (by decide) (by simp [hv, own_got, h1, h3, h4])
  · refine own_lift (T' := T5) (f' := (mkF m 7 #[.val (.ref a1), .val pv] [])) (fun _ k => Jvm.RoadKit.acmp (g := (mkF m 4 #[.val (.ref a1), .val pv] [(.ref wF), (.ref a1)])) X5 hx rfl rfl rfl (pc0 := 4) (pc' := 7) (same := false) rfl (hb hby d2_4) rfl (decide_eq_false fun q => h1 (Value.ref.inj q)) (by decide) (by decide) k) ?_
    refine own_lift (T' := T5) (f' := (mkF m 8 #[.val (.ref a1), .val pv] [(.ref a1)])) (fun _ k => XS.aloadN X5.here hx rfl (hb hby d2_7) rfl rfl k) ?_
    obtain ⟨T8, X8, e8, st8⟩ := getS2 X5 hx hZ hown (host := "") (Or.inl (hw _ (List.mem_of_getElem? (i := 17) rfl))) Via.refl e5 S_PROJECT (g := (mkF m 8 #[.val (.ref a1), .val pv] [(.ref a1)])) rfl (hb hby d2_8)
    refine own_lift (T' := T8) (f' := (mkF m 11 #[.val (.ref a1), .val pv] [(.ref wP), (.ref a1)])) (st8) ?_
    by_cases h2 : a1 = wP
    · refine own_lift (T' := T8) (f' := (mkF m 14 #[.val (.ref a1), .val pv] [])) (fun _ k => Jvm.RoadKit.acmp (g := (mkF m 11 #[.val (.ref a1), .val pv] [(.ref wP), (.ref a1)])) X8 hx rfl rfl rfl (pc0 := 11) (pc' := 14) (same := true) rfl (hb hby d2_11) rfl (decide_eq_true (congrArg Value.ref h2)) (by decide) (by decide) k) ?_
      refine own_lift (T' := T8) (f' := (mkF m 15 #[.val (.ref a1), .val pv] [pv])) (fun _ k => XS.aloadN X8.here hx rfl (hb hby d2_14) rfl hpv k) ?_
      obtain ⟨T9, X9, e9, st9⟩ := getS2 X8 hx hZ hown (host := "") (Or.inl (hw _ (List.mem_of_getElem? (i := 21) rfl))) Via.refl e8 S_ORGANIZATION (g := (mkF m 15 #[.val (.ref a1), .val pv] [pv])) rfl (hb hby d2_15)
      refine own_lift (T' := T9) (f' := (mkF m 18 #[.val (.ref a1), .val pv] [(.ref wO), pv])) (st9) ?_
      by_cases h3 : (pv : Value) = ((.ref wO) : Value)
      · refine own_lift (T' := T9) (f' := (mkF m 28 #[.val (.ref a1), .val pv] [])) (fun _ k => Jvm.RoadKit.acmp (g := (mkF m 18 #[.val (.ref a1), .val pv] [(.ref wO), pv])) X9 hx rfl hpv rfl (pc0 := 18) (pc' := 28) (same := true) rfl (hb hby d2_18) rfl (decide_eq_true h3) (by decide) (by decide) k) ?_
        refine own_lift (T' := T9) (f' := (mkF m 29 #[.val (.ref a1), .val pv] [(.int (1 : Int32))])) (fun _ k => XS.iconst X9.here hx rfl (hb hby d2_28) k) ?_
        refine own_lift (T' := T9) (f' := (mkF m 33 #[.val (.ref a1), .val pv] [(.int (1 : Int32))])) (fun _ k => XS.goto X9.here hx rfl (pc0 := 29) (pc' := 33) rfl (hb hby d2_29) (by decide) (by decide) k) ?_
        exact own_retZ X9 hx hlk Bd.returns (hb hby d2_33) e9 (by decide) (by simp [hv, own_got, h1, h2, h3])
      · refine own_lift (T' := T9) (f' := (mkF m 21 #[.val (.ref a1), .val pv] [])) (fun _ k => Jvm.RoadKit.acmp (g := (mkF m 18 #[.val (.ref a1), .val pv] [(.ref wO), pv])) X9 hx rfl hpv rfl (pc0 := 18) (pc' := 21) (same := false) rfl (hb hby d2_18) rfl (decide_eq_false h3) (by decide) (by decide) k) ?_
        refine own_lift (T' := T9) (f' := (mkF m 22 #[.val (.ref a1), .val pv] [pv])) (fun _ k => XS.aloadN X9.here hx rfl (hb hby d2_21) rfl hpv k) ?_
        obtain ⟨T10, X10, e10, st10⟩ := getS2 X9 hx hZ hown (host := "") (Or.inl (hw _ (List.mem_of_getElem? (i := 15) rfl))) Via.refl e9 S_FOLDER (g := (mkF m 22 #[.val (.ref a1), .val pv] [pv])) rfl (hb hby d2_22)
        refine own_lift (T' := T10) (f' := (mkF m 25 #[.val (.ref a1), .val pv] [(.ref wF), pv])) (st10) ?_
        by_cases h4 : (pv : Value) = ((.ref wF) : Value)
        · refine own_lift (T' := T10) (f' := (mkF m 28 #[.val (.ref a1), .val pv] [])) (fun _ k => Jvm.RoadKit.acmp (g := (mkF m 25 #[.val (.ref a1), .val pv] [(.ref wF), pv])) X10 hx rfl hpv rfl (pc0 := 25) (pc' := 28) (same := true) rfl (hb hby d2_25) rfl (decide_eq_true h4) (by decide) (by decide) k) ?_
          refine own_lift (T' := T10) (f' := (mkF m 29 #[.val (.ref a1), .val pv] [(.int (1 : Int32))])) (fun _ k => XS.iconst X10.here hx rfl (hb hby d2_28) k) ?_
          refine own_lift (T' := T10) (f' := (mkF m 33 #[.val (.ref a1), .val pv] [(.int (1 : Int32))])) (fun _ k => XS.goto X10.here hx rfl (pc0 := 29) (pc' := 33) rfl (hb hby d2_29) (by decide) (by decide) k) ?_
          exact own_retZ X10 hx hlk Bd.returns (hb hby d2_33) e10 (by decide) (by simp [hv, own_got, h1, h2, h3, h4])
        · refine own_lift (T' := T10) (f' := (mkF m 32 #[.val (.ref a1), .val pv] [])) (fun _ k => Jvm.RoadKit.acmp (g := (mkF m 25 #[.val (.ref a1), .val pv] [(.ref wF), pv])) X10 hx rfl hpv rfl (pc0 := 25) (pc' := 32) (same := false) rfl (hb hby d2_25) rfl (decide_eq_false h4) (by decide) (by decide) k) ?_
          refine own_lift (T' := T10) (f' := (mkF m 33 #[.val (.ref a1), .val pv] [(.int (0 : Int32))])) (fun _ k => XS.iconst X10.here hx rfl (hb hby d2_32) k) ?_
          exact own_retZ X10 hx hlk Bd.returns (hb hby d2_33) e10 (by decide) (by simp [hv, own_got, h1, h2, h3, h4])
    · refine own_lift (T' := T8) (f' := (mkF m 32 #[.val (.ref a1), .val pv] [])) (fun _ k => Jvm.RoadKit.acmp (g := (mkF m 11 #[.val (.ref a1), .val pv] [(.ref wP), (.ref a1)])) X8 hx rfl rfl rfl (pc0 := 11) (pc' := 32) (same := false) rfl (hb hby d2_11) rfl (decide_eq_false fun q => h2 (Value.ref.inj q)) (by decide) (by decide) k) ?_
      refine own_lift (T' := T8) (f' := (mkF m 33 #[.val (.ref a1), .val pv] [(.int (0 : Int32))])) (fun _ k => XS.iconst X8.here hx rfl (hb hby d2_32) k) ?_
      exact own_retZ X8 hx hlk Bd.returns (hb hby d2_33) e8 (by decide) (by simp [hv, own_got, h1, h2])
theorem pn_0 : plainName "com/example/bindery/bindery/core/KindMayBeCreatedUnderPinLaw" = true := by first | (simp [plainName, overriddenIn]; done) | decide +kernel
theorem pd_0 : parseMethodDescriptor "(II)Z" = some ⟨[.int, .int], some .boolean⟩ := by decide +kernel
theorem ef_0 (m : MethodId) (x0 : Int32) (x1 : Int32)  : entryFrame m #[(.int x0), (.int x1)] maxLocals = mkF m 0 #[.val (.int x0), .val (.int x1), .unset, .unset, .unset, .unset, .unset, .unset, .unset] [] := by first | (simp [entryFrame, mkF, argsToLocals, Value.category, maxLocals]; done) | rfl
set_option maxRecDepth 65536 in
set_option maxHeartbeats 40000000 in
theorem rm0 (l : Launch) (Z : State) (a0 : Array Value) (hw : ∀ d ∈ tables_1, d.before a0 Z = true) (ws : List Jvm.Cond) (p1 p2 : Int32) (wO wF wP wR : Addr) (wc : Addr) (pv : Value) (g : Int32) (h0 : Heap) (S_ORGANIZATION : Sta Z h0 "com/example/bindery/bindery/core/ResourceName$Kind" "ORGANIZATION" "Lcom/example/bindery/bindery/core/ResourceName$Kind;" (.ref wO)) (S_FOLDER : Sta Z h0 "com/example/bindery/bindery/core/ResourceName$Kind" "FOLDER" "Lcom/example/bindery/bindery/core/ResourceName$Kind;" (.ref wF)) (S_PROJECT : Sta Z h0 "com/example/bindery/bindery/core/ResourceName$Kind" "PROJECT" "Lcom/example/bindery/bindery/core/ResourceName$Kind;" (.ref wP)) (S_PROJECT_RESOURCE : Sta Z h0 "com/example/bindery/bindery/core/ResourceName$Kind" "PROJECT_RESOURCE" "Lcom/example/bindery/bindery/core/ResourceName$Kind;" (.ref wR)) (hc : Value.ref wc = own_kind ((p1 &&& (2147483647 : Int32)) % (4 : Int32)) wO wF wP wR) (hpv : pv.isRef = true) (hp : pv = own_kind ((p2 &&& (2147483647 : Int32)) % (5 : Int32)) wO wF wP wR) (E_c : Exa Z h0 wc "com/example/bindery/bindery/core/ResourceName$Kind") (hg : g = own_got wc pv wO wF wP) (he : g = if own_bit ((p1 &&& (2147483647 : Int32)) % (4 : Int32)) ((p2 &&& (2147483647 : Int32)) % (5 : Int32)) = 0 then 0 else 1) :
    MetFree l x (head1 (Jvm.Cond.code x code maxLocals ret :: ws) room_1) (fun a U => a = #[(.int p1), (.int p2)] ∧ Z.Warmed39 U.vm ∧ U.heap = h0) (fun _ _ _ _ _ => True) (fun _ U o U' => ∃ v L, o = .returned v ∧ own_Q (.int 1) h0 v U'.heap L ∧ FrameEnd U o U' L room_1.cells room_1.slots) := by
  refine MetFree.of_bodySF (plainFor_of_name pn_0) hisR ?_
  intro p e s m args below meth c s₁ Bd hml0 hP hK
  obtain ⟨rfl, hZ, hh⟩ := hP
  have hx := Bd.exec
  have hby := Bd.bytes
  have hml : c.maxLocals = 9 := hml0
  have hown : s.vm.findClass "com/example/bindery/bindery/core/KindMayBeCreatedUnderPinLaw" = some m.cls := findClass_of_methodNamed Bd.named
  have hlk : meth.locks = false := BodyLoose.notSynchronized Bd
  have X0 : Stand p l e room_1 s m #[(.int p1), (.int p2)] below meth c s₁ [] 0 0 := Stand.of_body Bd
  have e0 : s₁.heap = h0 := by rw [← hh, Bd.state]; rfl
  refine own_start (Q := own_End (.int 1) h0 s room_1) (ef_0 m p1 p2) ?_
  rcases ref_cases hpv with rfl | ⟨wp, rfl⟩
  · refine own_lift (T' := s₁) (f' := (mkF m 1 #[.val (.int p1), .val (.int p2), .unset, .unset, .unset, .unset, .unset, .unset, .unset] [(.int p1)])) (fun _ k => XS.iloadN X0.here hx rfl (hb hby at_0) rfl k) ?_
    refine own_lift (T' := s₁) (f' := (mkF m 3 #[.val (.int p1), .val (.int p2), .unset, .unset, .unset, .unset, .unset, .unset, .unset] [(.int (2147483647 : Int32)), (.int p1)])) (X0.ldcInt hx hown (mvT hZ (hw _ (List.mem_of_getElem? (i := 0) rfl))) (g := (mkF m 1 #[.val (.int p1), .val (.int p2), .unset, .unset, .unset, .unset, .unset, .unset, .unset] [(.int p1)])) rfl (hb hby at_1)) ?_
    refine own_lift (T' := s₁) (f' := (mkF m 4 #[.val (.int p1), .val (.int p2), .unset, .unset, .unset, .unset, .unset, .unset, .unset] [(.int (p1 &&& (2147483647 : Int32)))])) (fun _ k => XS.iand X0.here hx rfl (hb hby at_3) rfl k) ?_
    refine own_lift (T' := s₁) (f' := (mkF m 5 #[.val (.int p1), .val (.int p2), .unset, .unset, .unset, .unset, .unset, .unset, .unset] [(.int (4 : Int32)), (.int (p1 &&& (2147483647 : Int32)))])) (fun _ k => XS.iconst X0.here hx rfl (hb hby at_4) k) ?_
    refine own_lift (T' := s₁) (f' := (mkF m 6 #[.val (.int p1), .val (.int p2), .unset, .unset, .unset, .unset, .unset, .unset, .unset] [(.int ((p1 &&& (2147483647 : Int32)) % (4 : Int32)))])) (fun _ k => iremM X0 hx rfl (hb hby at_5) rfl (by decide) k) ?_
    refine own_lift (T' := s₁) (f' := (mkF m 7 #[.val (.int p1), .val (.int p2), .val (.int ((p1 &&& (2147483647 : Int32)) % (4 : Int32))), .unset, .unset, .unset, .unset, .unset, .unset] [])) (fun _ k => XS.istoreN X0.here hx rfl (hb hby at_6) rfl (l' := #[.val (.int p1), .val (.int p2), .val (.int ((p1 &&& (2147483647 : Int32)) % (4 : Int32))), .unset, .unset, .unset, .unset, .unset, .unset]) rfl k) ?_
    refine own_lift (T' := s₁) (f' := (mkF m 8 #[.val (.int p1), .val (.int p2), .val (.int ((p1 &&& (2147483647 : Int32)) % (4 : Int32))), .unset, .unset, .unset, .unset, .unset, .unset] [(.int p2)])) (fun _ k => XS.iloadN X0.here hx rfl (hb hby at_7) rfl k) ?_
    refine own_lift (T' := s₁) (f' := (mkF m 10 #[.val (.int p1), .val (.int p2), .val (.int ((p1 &&& (2147483647 : Int32)) % (4 : Int32))), .unset, .unset, .unset, .unset, .unset, .unset] [(.int (2147483647 : Int32)), (.int p2)])) (X0.ldcInt hx hown (mvT hZ (hw _ (List.mem_of_getElem? (i := 0) rfl))) (g := (mkF m 8 #[.val (.int p1), .val (.int p2), .val (.int ((p1 &&& (2147483647 : Int32)) % (4 : Int32))), .unset, .unset, .unset, .unset, .unset, .unset] [(.int p2)])) rfl (hb hby at_8)) ?_
    refine own_lift (T' := s₁) (f' := (mkF m 11 #[.val (.int p1), .val (.int p2), .val (.int ((p1 &&& (2147483647 : Int32)) % (4 : Int32))), .unset, .unset, .unset, .unset, .unset, .unset] [(.int (p2 &&& (2147483647 : Int32)))])) (fun _ k => XS.iand X0.here hx rfl (hb hby at_10) rfl k) ?_
    refine own_lift (T' := s₁) (f' := (mkF m 12 #[.val (.int p1), .val (.int p2), .val (.int ((p1 &&& (2147483647 : Int32)) % (4 : Int32))), .unset, .unset, .unset, .unset, .unset, .unset] [(.int (5 : Int32)), (.int (p2 &&& (2147483647 : Int32)))])) (fun _ k => XS.iconst X0.here hx rfl (hb hby at_11) k) ?_
    refine own_lift (T' := s₁) (f' := (mkF m 13 #[.val (.int p1), .val (.int p2), .val (.int ((p1 &&& (2147483647 : Int32)) % (4 : Int32))), .unset, .unset, .unset, .unset, .unset, .unset] [(.int ((p2 &&& (2147483647 : Int32)) % (5 : Int32)))])) (fun _ k => iremM X0 hx rfl (hb hby at_12) rfl (by decide) k) ?_
    refine own_lift (T' := s₁) (f' := (mkF m 14 #[.val (.int p1), .val (.int p2), .val (.int ((p1 &&& (2147483647 : Int32)) % (4 : Int32))), .val (.int ((p2 &&& (2147483647 : Int32)) % (5 : Int32))), .unset, .unset, .unset, .unset, .unset] [])) (fun _ k => XS.istoreN X0.here hx rfl (hb hby at_13) rfl (l' := #[.val (.int p1), .val (.int p2), .val (.int ((p1 &&& (2147483647 : Int32)) % (4 : Int32))), .val (.int ((p2 &&& (2147483647 : Int32)) % (5 : Int32))), .unset, .unset, .unset, .unset, .unset]) rfl k) ?_
    refine own_lift (T' := s₁) (f' := (mkF m 15 #[.val (.int p1), .val (.int p2), .val (.int ((p1 &&& (2147483647 : Int32)) % (4 : Int32))), .val (.int ((p2 &&& (2147483647 : Int32)) % (5 : Int32))), .unset, .unset, .unset, .unset, .unset] [(.int ((p1 &&& (2147483647 : Int32)) % (4 : Int32)))])) (fun _ k => XS.iloadN X0.here hx rfl (hb hby at_14) rfl k) ?_
    obtain ⟨_, _, ⟨T11, L11, k11, n11⟩, -, Y11, ⟨Lc11, hQ11, l11, y11, z11⟩, st11⟩ := Jvm.LawKit.callS X0 hx (y := (⟨"com/example/bindery/bindery/core/KindMayBeCreatedUnderPinLaw", "kindOf", "(I)Lcom/example/bindery/bindery/core/ResourceName$Kind;"⟩ : MethodName)) hown (mvT hZ (hw _ (List.mem_of_getElem? (i := 1) rfl))) (mvT hZ (hw _ (List.mem_of_getElem? (i := 2) rfl))) (mvT hZ (hw _ (List.mem_of_getElem? (i := 3) rfl))) (mvT hZ (hw _ (List.mem_of_getElem? (i := 4) rfl))) (by decide) (backOf (W := 0) (rm1 l Z a0 hw [] ((p1 &&& (2147483647 : Int32)) % (4 : Int32)) wO wF wP wR (.ref wc) h0 S_ORGANIZATION S_FOLDER S_PROJECT S_PROJECT_RESOURCE hc) hZ (hw _ (List.mem_of_getElem? (i := 4) rfl)) (hw _ (List.mem_of_getElem? (i := 3) rfl)) (by decide) (by decide)) (g := (mkF m 15 #[.val (.int p1), .val (.int p2), .val (.int ((p1 &&& (2147483647 : Int32)) % (4 : Int32))), .val (.int ((p2 &&& (2147483647 : Int32)) % (5 : Int32))), .unset, .unset, .unset, .unset, .unset] [(.int ((p1 &&& (2147483647 : Int32)) % (4 : Int32)))])) rfl (by rw [hml]; rfl) (argsL := [(.int ((p1 &&& (2147483647 : Int32)) % (4 : Int32)))]) (rest := []) (lenOf pd_1 rfl) rfl (by show 2 * 0 + _ ≤ _; exact Nat.le_of_eq rfl) (hb hby at_15) (fun _ _ => ⟨rfl, e0, (by decide : 0 + 0 ≤ _), (by decide : 0 + 0 ≤ _)⟩)
    dsimp only [Pt.U, Pt.locs, Pt.cells, Pt.slots] at Y11 l11 y11 z11 st11 hQ11
    subst l11 y11 z11
    obtain ⟨rfl, rfl, e11⟩ := hQ11
    have X11 : Stand p l e room_1 s m #[(.int p1), (.int p2)] below meth c T11 [] 0 0 := Y11
    refine own_lift (T' := T11) (f' := (mkF m 18 #[.val (.int p1), .val (.int p2), .val (.int ((p1 &&& (2147483647 : Int32)) % (4 : Int32))), .val (.int ((p2 &&& (2147483647 : Int32)) % (5 : Int32))), .unset, .unset, .unset, .unset, .unset] [(.ref wc)])) (st11) ?_
    refine own_lift (T' := T11) (f' := (mkF m 20 #[.val (.int p1), .val (.int p2), .val (.int ((p1 &&& (2147483647 : Int32)) % (4 : Int32))), .val (.int ((p2 &&& (2147483647 : Int32)) % (5 : Int32))), .val (.ref wc), .unset, .unset, .unset, .unset] [])) (fun _ k => XS.astore X11.here hx rfl (hb hby at_18) rfl rfl (l' := #[.val (.int p1), .val (.int p2), .val (.int ((p1 &&& (2147483647 : Int32)) % (4 : Int32))), .val (.int ((p2 &&& (2147483647 : Int32)) % (5 : Int32))), .val (.ref wc), .unset, .unset, .unset, .unset]) rfl k) ?_
    refine own_lift (T' := T11) (f' := (mkF m 21 #[.val (.int p1), .val (.int p2), .val (.int ((p1 &&& (2147483647 : Int32)) % (4 : Int32))), .val (.int ((p2 &&& (2147483647 : Int32)) % (5 : Int32))), .val (.ref wc), .unset, .unset, .unset, .unset] [(.int ((p2 &&& (2147483647 : Int32)) % (5 : Int32)))])) (fun _ k => XS.iloadN X11.here hx rfl (hb hby at_20) rfl k) ?_
    obtain ⟨_, _, ⟨T12, L12, k12, n12⟩, -, Y12, ⟨Lc12, hQ12, l12, y12, z12⟩, st12⟩ := Jvm.LawKit.callS X11 hx (y := (⟨"com/example/bindery/bindery/core/KindMayBeCreatedUnderPinLaw", "kindOf", "(I)Lcom/example/bindery/bindery/core/ResourceName$Kind;"⟩ : MethodName)) hown (mvT hZ (hw _ (List.mem_of_getElem? (i := 1) rfl))) (mvT hZ (hw _ (List.mem_of_getElem? (i := 2) rfl))) (mvT hZ (hw _ (List.mem_of_getElem? (i := 3) rfl))) (mvT hZ (hw _ (List.mem_of_getElem? (i := 4) rfl))) (by decide) (backOf (W := 0) (rm1 l Z a0 hw [] ((p2 &&& (2147483647 : Int32)) % (5 : Int32)) wO wF wP wR .null h0 S_ORGANIZATION S_FOLDER S_PROJECT S_PROJECT_RESOURCE hp) hZ (hw _ (List.mem_of_getElem? (i := 4) rfl)) (hw _ (List.mem_of_getElem? (i := 3) rfl)) (by decide) (by decide)) (g := (mkF m 21 #[.val (.int p1), .val (.int p2), .val (.int ((p1 &&& (2147483647 : Int32)) % (4 : Int32))), .val (.int ((p2 &&& (2147483647 : Int32)) % (5 : Int32))), .val (.ref wc), .unset, .unset, .unset, .unset] [(.int ((p2 &&& (2147483647 : Int32)) % (5 : Int32)))])) rfl (by rw [hml]; rfl) (argsL := [(.int ((p2 &&& (2147483647 : Int32)) % (5 : Int32)))]) (rest := []) (lenOf pd_1 rfl) rfl (by show 2 * 0 + _ ≤ _; exact Nat.le_of_eq rfl) (hb hby at_21) (fun _ _ => ⟨rfl, e11, (by decide : 0 + 0 ≤ _), (by decide : 0 + 0 ≤ _)⟩)
    dsimp only [Pt.U, Pt.locs, Pt.cells, Pt.slots] at Y12 l12 y12 z12 st12 hQ12
    subst l12 y12 z12
    obtain ⟨rfl, rfl, e12⟩ := hQ12
    have X12 : Stand p l e room_1 s m #[(.int p1), (.int p2)] below meth c T12 [] 0 0 := Y12
    refine own_lift (T' := T12) (f' := (mkF m 24 #[.val (.int p1), .val (.int p2), .val (.int ((p1 &&& (2147483647 : Int32)) % (4 : Int32))), .val (.int ((p2 &&& (2147483647 : Int32)) % (5 : Int32))), .val (.ref wc), .unset, .unset, .unset, .unset] [.null])) (st12) ?_
    refine own_lift (T' := T12) (f' := (mkF m 26 #[.val (.int p1), .val (.int p2), .val (.int ((p1 &&& (2147483647 : Int32)) % (4 : Int32))), .val (.int ((p2 &&& (2147483647 : Int32)) % (5 : Int32))), .val (.ref wc), .val .null, .unset, .unset, .unset] [])) (fun _ k => XS.astore X12.here hx rfl (hb hby at_24) rfl rfl (l' := #[.val (.int p1), .val (.int p2), .val (.int ((p1 &&& (2147483647 : Int32)) % (4 : Int32))), .val (.int ((p2 &&& (2147483647 : Int32)) % (5 : Int32))), .val (.ref wc), .val .null, .unset, .unset, .unset]) rfl k) ?_
    refine own_lift (T' := T12) (f' := (mkF m 28 #[.val (.int p1), .val (.int p2), .val (.int ((p1 &&& (2147483647 : Int32)) % (4 : Int32))), .val (.int ((p2 &&& (2147483647 : Int32)) % (5 : Int32))), .val (.ref wc), .val .null, .unset, .unset, .unset] [(.ref wc)])) (fun _ k => XS.aload X12.here hx rfl (hb hby at_26) rfl rfl k) ?_
    refine own_lift (T' := T12) (f' := (mkF m 30 #[.val (.int p1), .val (.int p2), .val (.int ((p1 &&& (2147483647 : Int32)) % (4 : Int32))), .val (.int ((p2 &&& (2147483647 : Int32)) % (5 : Int32))), .val (.ref wc), .val .null, .unset, .unset, .unset] [.null, (.ref wc)])) (fun _ k => XS.aload X12.here hx rfl (hb hby at_28) rfl rfl k) ?_
    obtain ⟨cq13, kq13, q13a, q13b, q13c⟩ := isOf hZ e12 E_c
    obtain ⟨_, _, ⟨T13, L13, k13, n13⟩, -, Y13, ⟨Lc13, hQ13, l13, y13, z13⟩, st13⟩ := X12.virtualBack hx (y := (⟨"com/example/bindery/bindery/core/ResourceName$Kind", "mayBeCreatedUnder", "(Lcom/example/bindery/bindery/core/ResourceName$Kind;)Z"⟩ : MethodName)) (z := (⟨"com/example/bindery/bindery/core/ResourceName$Kind", "mayBeCreatedUnder", "(Lcom/example/bindery/bindery/core/ResourceName$Kind;)Z"⟩ : MethodName)) hown (mvT hZ (hw _ (List.mem_of_getElem? (i := 10) rfl))) (mvT hZ (hw _ (List.mem_of_getElem? (i := 11) rfl))) (notFace_of_selects (args := #[]) (mvT hZ (hw _ (List.mem_of_getElem? (i := 13) rfl)))) (mvT hZ (hw _ (List.mem_of_getElem? (i := 13) rfl))) (mvT hZ (hw _ (List.mem_of_getElem? (i := 12) rfl))) (by decide) (backOf (W := 0) (rm2 l Z a0 hw [] wc .null rfl wO wF wP g h0 S_ORGANIZATION S_FOLDER S_PROJECT hg) hZ (hw _ (List.mem_of_getElem? (i := 14) rfl)) (hw _ (List.mem_of_getElem? (i := 6) rfl)) (by decide) (by decide)) q13a q13c (g := (mkF m 30 #[.val (.int p1), .val (.int p2), .val (.int ((p1 &&& (2147483647 : Int32)) % (4 : Int32))), .val (.int ((p2 &&& (2147483647 : Int32)) % (5 : Int32))), .val (.ref wc), .val .null, .unset, .unset, .unset] [.null, (.ref wc)])) rfl (by rw [hml]; rfl) (Steps.refl _) (argsL := [.null]) (rest := []) (lenOf pd_2 rfl) rfl (by show 2 * 0 + _ ≤ _; exact Nat.le_of_eq rfl) (hb hby at_30) (fun _ _ => ⟨rfl, e12, (by decide : 0 + 0 ≤ _), (by decide : 0 + 0 ≤ _)⟩)
    dsimp only [Pt.U, Pt.locs, Pt.cells, Pt.slots] at Y13 l13 y13 z13 st13 hQ13
    subst l13 y13 z13
    obtain ⟨rfl, rfl, e13⟩ := hQ13
    have X13 : Stand p l e room_1 s m #[(.int p1), (.int p2)] below meth c T13 [] 0 0 := Y13
    refine own_lift (T' := T13) (f' := (mkF m 33 #[.val (.int p1), .val (.int p2), .val (.int ((p1 &&& (2147483647 : Int32)) % (4 : Int32))), .val (.int ((p2 &&& (2147483647 : Int32)) % (5 : Int32))), .val (.ref wc), .val .null, .unset, .unset, .unset] [(.int g)])) (fun _ k => st13.trans k) ?_
    refine own_lift (T' := T13) (f' := (mkF m 35 #[.val (.int p1), .val (.int p2), .val (.int ((p1 &&& (2147483647 : Int32)) % (4 : Int32))), .val (.int ((p2 &&& (2147483647 : Int32)) % (5 : Int32))), .val (.ref wc), .val .null, .val (.int g), .unset, .unset] [])) (fun _ k => XS.istore X13.here hx rfl (hb hby at_33) rfl (l' := #[.val (.int p1), .val (.int p2), .val (.int ((p1 &&& (2147483647 : Int32)) % (4 : Int32))), .val (.int ((p2 &&& (2147483647 : Int32)) % (5 : Int32))), .val (.ref wc), .val .null, .val (.int g), .unset, .unset]) rfl k) ?_
    refine own_lift (T' := T13) (f' := (mkF m 38 #[.val (.int p1), .val (.int p2), .val (.int ((p1 &&& (2147483647 : Int32)) % (4 : Int32))), .val (.int ((p2 &&& (2147483647 : Int32)) % (5 : Int32))), .val (.ref wc), .val .null, .val (.int g), .unset, .unset] [(.int (3168 : Int32))])) (fun _ k => XS.sipush X13.here hx rfl (hb hby at_35) k) ?_
    refine own_lift (T' := T13) (f' := (mkF m 40 #[.val (.int p1), .val (.int p2), .val (.int ((p1 &&& (2147483647 : Int32)) % (4 : Int32))), .val (.int ((p2 &&& (2147483647 : Int32)) % (5 : Int32))), .val (.ref wc), .val .null, .val (.int g), .val (.int (3168 : Int32)), .unset] [])) (fun _ k => XS.istore X13.here hx rfl (hb hby at_38) rfl (l' := #[.val (.int p1), .val (.int p2), .val (.int ((p1 &&& (2147483647 : Int32)) % (4 : Int32))), .val (.int ((p2 &&& (2147483647 : Int32)) % (5 : Int32))), .val (.ref wc), .val .null, .val (.int g), .val (.int (3168 : Int32)), .unset]) rfl k) ?_
    refine own_lift (T' := T13) (f' := (mkF m 42 #[.val (.int p1), .val (.int p2), .val (.int ((p1 &&& (2147483647 : Int32)) % (4 : Int32))), .val (.int ((p2 &&& (2147483647 : Int32)) % (5 : Int32))), .val (.ref wc), .val .null, .val (.int g), .val (.int (3168 : Int32)), .unset] [(.int (3168 : Int32))])) (fun _ k => XS.iload X13.here hx rfl (hb hby at_40) rfl k) ?_
    refine own_lift (T' := T13) (f' := (mkF m 43 #[.val (.int p1), .val (.int p2), .val (.int ((p1 &&& (2147483647 : Int32)) % (4 : Int32))), .val (.int ((p2 &&& (2147483647 : Int32)) % (5 : Int32))), .val (.ref wc), .val .null, .val (.int g), .val (.int (3168 : Int32)), .unset] [(.int ((p1 &&& (2147483647 : Int32)) % (4 : Int32))), (.int (3168 : Int32))])) (fun _ k => XS.iloadN X13.here hx rfl (hb hby at_42) rfl k) ?_
    refine own_lift (T' := T13) (f' := (mkF m 44 #[.val (.int p1), .val (.int p2), .val (.int ((p1 &&& (2147483647 : Int32)) % (4 : Int32))), .val (.int ((p2 &&& (2147483647 : Int32)) % (5 : Int32))), .val (.ref wc), .val .null, .val (.int g), .val (.int (3168 : Int32)), .unset] [(.int (5 : Int32)), (.int ((p1 &&& (2147483647 : Int32)) % (4 : Int32))), (.int (3168 : Int32))])) (fun _ k => XS.iconst X13.here hx rfl (hb hby at_43) k) ?_
    refine own_lift (T' := T13) (f' := (mkF m 45 #[.val (.int p1), .val (.int p2), .val (.int ((p1 &&& (2147483647 : Int32)) % (4 : Int32))), .val (.int ((p2 &&& (2147483647 : Int32)) % (5 : Int32))), .val (.ref wc), .val .null, .val (.int g), .val (.int (3168 : Int32)), .unset] [(.int (((p1 &&& (2147483647 : Int32)) % (4 : Int32)) * (5 : Int32))), (.int (3168 : Int32))])) (fun _ k => XS.imul X13.here hx rfl (hb hby at_44) rfl k) ?_
    refine own_lift (T' := T13) (f' := (mkF m 46 #[.val (.int p1), .val (.int p2), .val (.int ((p1 &&& (2147483647 : Int32)) % (4 : Int32))), .val (.int ((p2 &&& (2147483647 : Int32)) % (5 : Int32))), .val (.ref wc), .val .null, .val (.int g), .val (.int (3168 : Int32)), .unset] [(.int ((p2 &&& (2147483647 : Int32)) % (5 : Int32))), (.int (((p1 &&& (2147483647 : Int32)) % (4 : Int32)) * (5 : Int32))), (.int (3168 : Int32))])) (fun _ k => XS.iloadN X13.here hx rfl (hb hby at_45) rfl k) ?_
    refine own_lift (T' := T13) (f' := (mkF m 47 #[.val (.int p1), .val (.int p2), .val (.int ((p1 &&& (2147483647 : Int32)) % (4 : Int32))), .val (.int ((p2 &&& (2147483647 : Int32)) % (5 : Int32))), .val (.ref wc), .val .null, .val (.int g), .val (.int (3168 : Int32)), .unset] [(.int ((((p1 &&& (2147483647 : Int32)) % (4 : Int32)) * (5 : Int32)) + ((p2 &&& (2147483647 : Int32)) % (5 : Int32)))), (.int (3168 : Int32))])) (fun _ k => XS.iadd X13.here hx rfl (hb hby at_46) rfl k) ?_
    refine own_lift (T' := T13) (f' := (mkF m 48 #[.val (.int p1), .val (.int p2), .val (.int ((p1 &&& (2147483647 : Int32)) % (4 : Int32))), .val (.int ((p2 &&& (2147483647 : Int32)) % (5 : Int32))), .val (.ref wc), .val .null, .val (.int g), .val (.int (3168 : Int32)), .unset] [(.int (((3168 : Int32).toUInt32 >>> (((((p1 &&& (2147483647 : Int32)) % (4 : Int32)) * (5 : Int32)) + ((p2 &&& (2147483647 : Int32)) % (5 : Int32))) &&& 31).toUInt32).toInt32))])) (fun _ k => XS.iushr X13.here hx rfl (hb hby at_47) rfl k) ?_
    refine own_lift (T' := T13) (f' := (mkF m 49 #[.val (.int p1), .val (.int p2), .val (.int ((p1 &&& (2147483647 : Int32)) % (4 : Int32))), .val (.int ((p2 &&& (2147483647 : Int32)) % (5 : Int32))), .val (.ref wc), .val .null, .val (.int g), .val (.int (3168 : Int32)), .unset] [(.int (1 : Int32)), (.int (((3168 : Int32).toUInt32 >>> (((((p1 &&& (2147483647 : Int32)) % (4 : Int32)) * (5 : Int32)) + ((p2 &&& (2147483647 : Int32)) % (5 : Int32))) &&& 31).toUInt32).toInt32))])) (fun _ k => XS.iconst X13.here hx rfl (hb hby at_48) k) ?_
    refine own_lift (T' := T13) (f' := (mkF m 50 #[.val (.int p1), .val (.int p2), .val (.int ((p1 &&& (2147483647 : Int32)) % (4 : Int32))), .val (.int ((p2 &&& (2147483647 : Int32)) % (5 : Int32))), .val (.ref wc), .val .null, .val (.int g), .val (.int (3168 : Int32)), .unset] [(.int ((((3168 : Int32).toUInt32 >>> (((((p1 &&& (2147483647 : Int32)) % (4 : Int32)) * (5 : Int32)) + ((p2 &&& (2147483647 : Int32)) % (5 : Int32))) &&& 31).toUInt32).toInt32) &&& (1 : Int32)))])) (fun _ k => XS.iand X13.here hx rfl (hb hby at_49) rfl k) ?_
    by_cases hbt : ((((3168 : Int32).toUInt32 >>> (((((p1 &&& (2147483647 : Int32)) % (4 : Int32)) * (5 : Int32)) + ((p2 &&& (2147483647 : Int32)) % (5 : Int32))) &&& 31).toUInt32).toInt32) &&& (1 : Int32)) = (0 : Int32)
    · refine own_lift (T' := T13) (f' := (mkF m 57 #[.val (.int p1), .val (.int p2), .val (.int ((p1 &&& (2147483647 : Int32)) % (4 : Int32))), .val (.int ((p2 &&& (2147483647 : Int32)) % (5 : Int32))), .val (.ref wc), .val .null, .val (.int g), .val (.int (3168 : Int32)), .unset] [])) (fun _ k => XS.ifYes X13.here hx rfl (pc0 := 50) (pc' := 57) rfl (hb hby at_50) rfl ((if0 _ _).trans (teq hbt).1) (by decide) (by decide) k) ?_
      have hgv : g = (0 : Int32) := by rw [he]; exact if_pos hbt
      refine own_lift (T' := T13) (f' := (mkF m 58 #[.val (.int p1), .val (.int p2), .val (.int ((p1 &&& (2147483647 : Int32)) % (4 : Int32))), .val (.int ((p2 &&& (2147483647 : Int32)) % (5 : Int32))), .val (.ref wc), .val .null, .val (.int g), .val (.int (3168 : Int32)), .unset] [(.int (0 : Int32))])) (fun _ k => XS.iconst X13.here hx rfl (hb hby at_57) k) ?_
      refine own_lift (T' := T13) (f' := (mkF m 60 #[.val (.int p1), .val (.int p2), .val (.int ((p1 &&& (2147483647 : Int32)) % (4 : Int32))), .val (.int ((p2 &&& (2147483647 : Int32)) % (5 : Int32))), .val (.ref wc), .val .null, .val (.int g), .val (.int (3168 : Int32)), .val (.int (0 : Int32))] [])) (fun _ k => XS.istore X13.here hx rfl (hb hby at_58) rfl (l' := #[.val (.int p1), .val (.int p2), .val (.int ((p1 &&& (2147483647 : Int32)) % (4 : Int32))), .val (.int ((p2 &&& (2147483647 : Int32)) % (5 : Int32))), .val (.ref wc), .val .null, .val (.int g), .val (.int (3168 : Int32)), .val (.int (0 : Int32))]) rfl k) ?_
      refine own_lift (T' := T13) (f' := (mkF m 62 #[.val (.int p1), .val (.int p2), .val (.int ((p1 &&& (2147483647 : Int32)) % (4 : Int32))), .val (.int ((p2 &&& (2147483647 : Int32)) % (5 : Int32))), .val (.ref wc), .val .null, .val (.int g), .val (.int (3168 : Int32)), .val (.int (0 : Int32))] [(.int g)])) (fun _ k => XS.iload X13.here hx rfl (hb hby at_60) rfl k) ?_
      refine own_lift (T' := T13) (f' := (mkF m 64 #[.val (.int p1), .val (.int p2), .val (.int ((p1 &&& (2147483647 : Int32)) % (4 : Int32))), .val (.int ((p2 &&& (2147483647 : Int32)) % (5 : Int32))), .val (.ref wc), .val .null, .val (.int g), .val (.int (3168 : Int32)), .val (.int (0 : Int32))] [(.int (0 : Int32)), (.int g)])) (fun _ k => XS.iload X13.here hx rfl (hb hby at_62) rfl k) ?_
      refine own_lift (T' := T13) (f' := (mkF m 67 #[.val (.int p1), .val (.int p2), .val (.int ((p1 &&& (2147483647 : Int32)) % (4 : Int32))), .val (.int ((p2 &&& (2147483647 : Int32)) % (5 : Int32))), .val (.ref wc), .val .null, .val (.int g), .val (.int (3168 : Int32)), .val (.int (0 : Int32))] [])) (fun _ k => XS.icmpNo X13.here hx rfl (hb hby at_64) rfl (teq hgv).2 k) ?_
      refine own_lift (T' := T13) (f' := (mkF m 68 #[.val (.int p1), .val (.int p2), .val (.int ((p1 &&& (2147483647 : Int32)) % (4 : Int32))), .val (.int ((p2 &&& (2147483647 : Int32)) % (5 : Int32))), .val (.ref wc), .val .null, .val (.int g), .val (.int (3168 : Int32)), .val (.int (0 : Int32))] [(.int (1 : Int32))])) (fun _ k => XS.iconst X13.here hx rfl (hb hby at_67) k) ?_
      refine own_lift (T' := T13) (f' := (mkF m 72 #[.val (.int p1), .val (.int p2), .val (.int ((p1 &&& (2147483647 : Int32)) % (4 : Int32))), .val (.int ((p2 &&& (2147483647 : Int32)) % (5 : Int32))), .val (.ref wc), .val .null, .val (.int g), .val (.int (3168 : Int32)), .val (.int (0 : Int32))] [(.int (1 : Int32))])) (fun _ k => XS.goto X13.here hx rfl (pc0 := 68) (pc' := 72) rfl (hb hby at_68) (by decide) (by decide) k) ?_
      exact own_retZ X13 hx hlk Bd.returns (hb hby at_72) e13 (by decide) rfl
    · refine own_lift (T' := T13) (f' := (mkF m 53 #[.val (.int p1), .val (.int p2), .val (.int ((p1 &&& (2147483647 : Int32)) % (4 : Int32))), .val (.int ((p2 &&& (2147483647 : Int32)) % (5 : Int32))), .val (.ref wc), .val .null, .val (.int g), .val (.int (3168 : Int32)), .unset] [])) (fun _ k => XS.ifNo X13.here hx rfl (hb hby at_50) rfl ((if0 _ _).trans (feq hbt).1) k) ?_
      have hgv : g = (1 : Int32) := by rw [he]; exact if_neg hbt
      refine own_lift (T' := T13) (f' := (mkF m 54 #[.val (.int p1), .val (.int p2), .val (.int ((p1 &&& (2147483647 : Int32)) % (4 : Int32))), .val (.int ((p2 &&& (2147483647 : Int32)) % (5 : Int32))), .val (.ref wc), .val .null, .val (.int g), .val (.int (3168 : Int32)), .unset] [(.int (1 : Int32))])) (fun _ k => XS.iconst X13.here hx rfl (hb hby at_53) k) ?_
      refine own_lift (T' := T13) (f' := (mkF m 58 #[.val (.int p1), .val (.int p2), .val (.int ((p1 &&& (2147483647 : Int32)) % (4 : Int32))), .val (.int ((p2 &&& (2147483647 : Int32)) % (5 : Int32))), .val (.ref wc), .val .null, .val (.int g), .val (.int (3168 : Int32)), .unset] [(.int (1 : Int32))])) (fun _ k => XS.goto X13.here hx rfl (pc0 := 54) (pc' := 58) rfl (hb hby at_54) (by decide) (by decide) k) ?_
      refine own_lift (T' := T13) (f' := (mkF m 60 #[.val (.int p1), .val (.int p2), .val (.int ((p1 &&& (2147483647 : Int32)) % (4 : Int32))), .val (.int ((p2 &&& (2147483647 : Int32)) % (5 : Int32))), .val (.ref wc), .val .null, .val (.int g), .val (.int (3168 : Int32)), .val (.int (1 : Int32))] [])) (fun _ k => XS.istore X13.here hx rfl (hb hby at_58) rfl (l' := #[.val (.int p1), .val (.int p2), .val (.int ((p1 &&& (2147483647 : Int32)) % (4 : Int32))), .val (.int ((p2 &&& (2147483647 : Int32)) % (5 : Int32))), .val (.ref wc), .val .null, .val (.int g), .val (.int (3168 : Int32)), .val (.int (1 : Int32))]) rfl k) ?_
      refine own_lift (T' := T13) (f' := (mkF m 62 #[.val (.int p1), .val (.int p2), .val (.int ((p1 &&& (2147483647 : Int32)) % (4 : Int32))), .val (.int ((p2 &&& (2147483647 : Int32)) % (5 : Int32))), .val (.ref wc), .val .null, .val (.int g), .val (.int (3168 : Int32)), .val (.int (1 : Int32))] [(.int g)])) (fun _ k => XS.iload X13.here hx rfl (hb hby at_60) rfl k) ?_
      refine own_lift (T' := T13) (f' := (mkF m 64 #[.val (.int p1), .val (.int p2), .val (.int ((p1 &&& (2147483647 : Int32)) % (4 : Int32))), .val (.int ((p2 &&& (2147483647 : Int32)) % (5 : Int32))), .val (.ref wc), .val .null, .val (.int g), .val (.int (3168 : Int32)), .val (.int (1 : Int32))] [(.int (1 : Int32)), (.int g)])) (fun _ k => XS.iload X13.here hx rfl (hb hby at_62) rfl k) ?_
      refine own_lift (T' := T13) (f' := (mkF m 67 #[.val (.int p1), .val (.int p2), .val (.int ((p1 &&& (2147483647 : Int32)) % (4 : Int32))), .val (.int ((p2 &&& (2147483647 : Int32)) % (5 : Int32))), .val (.ref wc), .val .null, .val (.int g), .val (.int (3168 : Int32)), .val (.int (1 : Int32))] [])) (fun _ k => XS.icmpNo X13.here hx rfl (hb hby at_64) rfl (teq hgv).2 k) ?_
      refine own_lift (T' := T13) (f' := (mkF m 68 #[.val (.int p1), .val (.int p2), .val (.int ((p1 &&& (2147483647 : Int32)) % (4 : Int32))), .val (.int ((p2 &&& (2147483647 : Int32)) % (5 : Int32))), .val (.ref wc), .val .null, .val (.int g), .val (.int (3168 : Int32)), .val (.int (1 : Int32))] [(.int (1 : Int32))])) (fun _ k => XS.iconst X13.here hx rfl (hb hby at_67) k) ?_
      refine own_lift (T' := T13) (f' := (mkF m 72 #[.val (.int p1), .val (.int p2), .val (.int ((p1 &&& (2147483647 : Int32)) % (4 : Int32))), .val (.int ((p2 &&& (2147483647 : Int32)) % (5 : Int32))), .val (.ref wc), .val .null, .val (.int g), .val (.int (3168 : Int32)), .val (.int (1 : Int32))] [(.int (1 : Int32))])) (fun _ k => XS.goto X13.here hx rfl (pc0 := 68) (pc' := 72) rfl (hb hby at_68) (by decide) (by decide) k) ?_
      exact own_retZ X13 hx hlk Bd.returns (hb hby at_72) e13 (by decide) rfl
  · refine own_lift (T' := s₁) (f' := (mkF m 1 #[.val (.int p1), .val (.int p2), .unset, .unset, .unset, .unset, .unset, .unset, .unset] [(.int p1)])) (fun _ k => XS.iloadN X0.here hx rfl (hb hby at_0) rfl k) ?_
    refine own_lift (T' := s₁) (f' := (mkF m 3 #[.val (.int p1), .val (.int p2), .unset, .unset, .unset, .unset, .unset, .unset, .unset] [(.int (2147483647 : Int32)), (.int p1)])) (X0.ldcInt hx hown (mvT hZ (hw _ (List.mem_of_getElem? (i := 0) rfl))) (g := (mkF m 1 #[.val (.int p1), .val (.int p2), .unset, .unset, .unset, .unset, .unset, .unset, .unset] [(.int p1)])) rfl (hb hby at_1)) ?_
    refine own_lift (T' := s₁) (f' := (mkF m 4 #[.val (.int p1), .val (.int p2), .unset, .unset, .unset, .unset, .unset, .unset, .unset] [(.int (p1 &&& (2147483647 : Int32)))])) (fun _ k => XS.iand X0.here hx rfl (hb hby at_3) rfl k) ?_
    refine own_lift (T' := s₁) (f' := (mkF m 5 #[.val (.int p1), .val (.int p2), .unset, .unset, .unset, .unset, .unset, .unset, .unset] [(.int (4 : Int32)), (.int (p1 &&& (2147483647 : Int32)))])) (fun _ k => XS.iconst X0.here hx rfl (hb hby at_4) k) ?_
    refine own_lift (T' := s₁) (f' := (mkF m 6 #[.val (.int p1), .val (.int p2), .unset, .unset, .unset, .unset, .unset, .unset, .unset] [(.int ((p1 &&& (2147483647 : Int32)) % (4 : Int32)))])) (fun _ k => iremM X0 hx rfl (hb hby at_5) rfl (by decide) k) ?_
    refine own_lift (T' := s₁) (f' := (mkF m 7 #[.val (.int p1), .val (.int p2), .val (.int ((p1 &&& (2147483647 : Int32)) % (4 : Int32))), .unset, .unset, .unset, .unset, .unset, .unset] [])) (fun _ k => XS.istoreN X0.here hx rfl (hb hby at_6) rfl (l' := #[.val (.int p1), .val (.int p2), .val (.int ((p1 &&& (2147483647 : Int32)) % (4 : Int32))), .unset, .unset, .unset, .unset, .unset, .unset]) rfl k) ?_
    refine own_lift (T' := s₁) (f' := (mkF m 8 #[.val (.int p1), .val (.int p2), .val (.int ((p1 &&& (2147483647 : Int32)) % (4 : Int32))), .unset, .unset, .unset, .unset, .unset, .unset] [(.int p2)])) (fun _ k => XS.iloadN X0.here hx rfl (hb hby at_7) rfl k) ?_
    refine own_lift (T' := s₁) (f' := (mkF m 10 #[.val (.int p1), .val (.int p2), .val (.int ((p1 &&& (2147483647 : Int32)) % (4 : Int32))), .unset, .unset, .unset, .unset, .unset, .unset] [(.int (2147483647 : Int32)), (.int p2)])) (X0.ldcInt hx hown (mvT hZ (hw _ (List.mem_of_getElem? (i := 0) rfl))) (g := (mkF m 8 #[.val (.int p1), .val (.int p2), .val (.int ((p1 &&& (2147483647 : Int32)) % (4 : Int32))), .unset, .unset, .unset, .unset, .unset, .unset] [(.int p2)])) rfl (hb hby at_8)) ?_
    refine own_lift (T' := s₁) (f' := (mkF m 11 #[.val (.int p1), .val (.int p2), .val (.int ((p1 &&& (2147483647 : Int32)) % (4 : Int32))), .unset, .unset, .unset, .unset, .unset, .unset] [(.int (p2 &&& (2147483647 : Int32)))])) (fun _ k => XS.iand X0.here hx rfl (hb hby at_10) rfl k) ?_
    refine own_lift (T' := s₁) (f' := (mkF m 12 #[.val (.int p1), .val (.int p2), .val (.int ((p1 &&& (2147483647 : Int32)) % (4 : Int32))), .unset, .unset, .unset, .unset, .unset, .unset] [(.int (5 : Int32)), (.int (p2 &&& (2147483647 : Int32)))])) (fun _ k => XS.iconst X0.here hx rfl (hb hby at_11) k) ?_
    refine own_lift (T' := s₁) (f' := (mkF m 13 #[.val (.int p1), .val (.int p2), .val (.int ((p1 &&& (2147483647 : Int32)) % (4 : Int32))), .unset, .unset, .unset, .unset, .unset, .unset] [(.int ((p2 &&& (2147483647 : Int32)) % (5 : Int32)))])) (fun _ k => iremM X0 hx rfl (hb hby at_12) rfl (by decide) k) ?_
    refine own_lift (T' := s₁) (f' := (mkF m 14 #[.val (.int p1), .val (.int p2), .val (.int ((p1 &&& (2147483647 : Int32)) % (4 : Int32))), .val (.int ((p2 &&& (2147483647 : Int32)) % (5 : Int32))), .unset, .unset, .unset, .unset, .unset] [])) (fun _ k => XS.istoreN X0.here hx rfl (hb hby at_13) rfl (l' := #[.val (.int p1), .val (.int p2), .val (.int ((p1 &&& (2147483647 : Int32)) % (4 : Int32))), .val (.int ((p2 &&& (2147483647 : Int32)) % (5 : Int32))), .unset, .unset, .unset, .unset, .unset]) rfl k) ?_
    refine own_lift (T' := s₁) (f' := (mkF m 15 #[.val (.int p1), .val (.int p2), .val (.int ((p1 &&& (2147483647 : Int32)) % (4 : Int32))), .val (.int ((p2 &&& (2147483647 : Int32)) % (5 : Int32))), .unset, .unset, .unset, .unset, .unset] [(.int ((p1 &&& (2147483647 : Int32)) % (4 : Int32)))])) (fun _ k => XS.iloadN X0.here hx rfl (hb hby at_14) rfl k) ?_
    obtain ⟨_, _, ⟨T14, L14, k14, n14⟩, -, Y14, ⟨Lc14, hQ14, l14, y14, z14⟩, st14⟩ := Jvm.LawKit.callS X0 hx (y := (⟨"com/example/bindery/bindery/core/KindMayBeCreatedUnderPinLaw", "kindOf", "(I)Lcom/example/bindery/bindery/core/ResourceName$Kind;"⟩ : MethodName)) hown (mvT hZ (hw _ (List.mem_of_getElem? (i := 1) rfl))) (mvT hZ (hw _ (List.mem_of_getElem? (i := 2) rfl))) (mvT hZ (hw _ (List.mem_of_getElem? (i := 3) rfl))) (mvT hZ (hw _ (List.mem_of_getElem? (i := 4) rfl))) (by decide) (backOf (W := 0) (rm1 l Z a0 hw [] ((p1 &&& (2147483647 : Int32)) % (4 : Int32)) wO wF wP wR (.ref wc) h0 S_ORGANIZATION S_FOLDER S_PROJECT S_PROJECT_RESOURCE hc) hZ (hw _ (List.mem_of_getElem? (i := 4) rfl)) (hw _ (List.mem_of_getElem? (i := 3) rfl)) (by decide) (by decide)) (g := (mkF m 15 #[.val (.int p1), .val (.int p2), .val (.int ((p1 &&& (2147483647 : Int32)) % (4 : Int32))), .val (.int ((p2 &&& (2147483647 : Int32)) % (5 : Int32))), .unset, .unset, .unset, .unset, .unset] [(.int ((p1 &&& (2147483647 : Int32)) % (4 : Int32)))])) rfl (by rw [hml]; rfl) (argsL := [(.int ((p1 &&& (2147483647 : Int32)) % (4 : Int32)))]) (rest := []) (lenOf pd_1 rfl) rfl (by show 2 * 0 + _ ≤ _; exact Nat.le_of_eq rfl) (hb hby at_15) (fun _ _ => ⟨rfl, e0, (by decide : 0 + 0 ≤ _), (by decide : 0 + 0 ≤ _)⟩)
    dsimp only [Pt.U, Pt.locs, Pt.cells, Pt.slots] at Y14 l14 y14 z14 st14 hQ14
    subst l14 y14 z14
    obtain ⟨rfl, rfl, e14⟩ := hQ14
    have X14 : Stand p l e room_1 s m #[(.int p1), (.int p2)] below meth c T14 [] 0 0 := Y14
    refine own_lift (T' := T14) (f' := (mkF m 18 #[.val (.int p1), .val (.int p2), .val (.int ((p1 &&& (2147483647 : Int32)) % (4 : Int32))), .val (.int ((p2 &&& (2147483647 : Int32)) % (5 : Int32))), .unset, .unset, .unset, .unset, .unset] [(.ref wc)])) (st14) ?_
    refine own_lift (T' := T14) (f' := (mkF m 20 #[.val (.int p1), .val (.int p2), .val (.int ((p1 &&& (2147483647 : Int32)) % (4 : Int32))), .val (.int ((p2 &&& (2147483647 : Int32)) % (5 : Int32))), .val (.ref wc), .unset, .unset, .unset, .unset] [])) (fun _ k => XS.astore X14.here hx rfl (hb hby at_18) rfl rfl (l' := #[.val (.int p1), .val (.int p2), .val (.int ((p1 &&& (2147483647 : Int32)) % (4 : Int32))), .val (.int ((p2 &&& (2147483647 : Int32)) % (5 : Int32))), .val (.ref wc), .unset, .unset, .unset, .unset]) rfl k) ?_
    refine own_lift (T' := T14) (f' := (mkF m 21 #[.val (.int p1), .val (.int p2), .val (.int ((p1 &&& (2147483647 : Int32)) % (4 : Int32))), .val (.int ((p2 &&& (2147483647 : Int32)) % (5 : Int32))), .val (.ref wc), .unset, .unset, .unset, .unset] [(.int ((p2 &&& (2147483647 : Int32)) % (5 : Int32)))])) (fun _ k => XS.iloadN X14.here hx rfl (hb hby at_20) rfl k) ?_
    obtain ⟨_, _, ⟨T15, L15, k15, n15⟩, -, Y15, ⟨Lc15, hQ15, l15, y15, z15⟩, st15⟩ := Jvm.LawKit.callS X14 hx (y := (⟨"com/example/bindery/bindery/core/KindMayBeCreatedUnderPinLaw", "kindOf", "(I)Lcom/example/bindery/bindery/core/ResourceName$Kind;"⟩ : MethodName)) hown (mvT hZ (hw _ (List.mem_of_getElem? (i := 1) rfl))) (mvT hZ (hw _ (List.mem_of_getElem? (i := 2) rfl))) (mvT hZ (hw _ (List.mem_of_getElem? (i := 3) rfl))) (mvT hZ (hw _ (List.mem_of_getElem? (i := 4) rfl))) (by decide) (backOf (W := 0) (rm1 l Z a0 hw [] ((p2 &&& (2147483647 : Int32)) % (5 : Int32)) wO wF wP wR (.ref wp) h0 S_ORGANIZATION S_FOLDER S_PROJECT S_PROJECT_RESOURCE hp) hZ (hw _ (List.mem_of_getElem? (i := 4) rfl)) (hw _ (List.mem_of_getElem? (i := 3) rfl)) (by decide) (by decide)) (g := (mkF m 21 #[.val (.int p1), .val (.int p2), .val (.int ((p1 &&& (2147483647 : Int32)) % (4 : Int32))), .val (.int ((p2 &&& (2147483647 : Int32)) % (5 : Int32))), .val (.ref wc), .unset, .unset, .unset, .unset] [(.int ((p2 &&& (2147483647 : Int32)) % (5 : Int32)))])) rfl (by rw [hml]; rfl) (argsL := [(.int ((p2 &&& (2147483647 : Int32)) % (5 : Int32)))]) (rest := []) (lenOf pd_1 rfl) rfl (by show 2 * 0 + _ ≤ _; exact Nat.le_of_eq rfl) (hb hby at_21) (fun _ _ => ⟨rfl, e14, (by decide : 0 + 0 ≤ _), (by decide : 0 + 0 ≤ _)⟩)
    dsimp only [Pt.U, Pt.locs, Pt.cells, Pt.slots] at Y15 l15 y15 z15 st15 hQ15
    subst l15 y15 z15
    obtain ⟨rfl, rfl, e15⟩ := hQ15
    have X15 : Stand p l e room_1 s m #[(.int p1), (.int p2)] below meth c T15 [] 0 0 := Y15
    refine own_lift (T' := T15) (f' := (mkF m 24 #[.val (.int p1), .val (.int p2), .val (.int ((p1 &&& (2147483647 : Int32)) % (4 : Int32))), .val (.int ((p2 &&& (2147483647 : Int32)) % (5 : Int32))), .val (.ref wc), .unset, .unset, .unset, .unset] [(.ref wp)])) (st15) ?_
    refine own_lift (T' := T15) (f' := (mkF m 26 #[.val (.int p1), .val (.int p2), .val (.int ((p1 &&& (2147483647 : Int32)) % (4 : Int32))), .val (.int ((p2 &&& (2147483647 : Int32)) % (5 : Int32))), .val (.ref wc), .val (.ref wp), .unset, .unset, .unset] [])) (fun _ k => XS.astore X15.here hx rfl (hb hby at_24) rfl rfl (l' := #[.val (.int p1), .val (.int p2), .val (.int ((p1 &&& (2147483647 : Int32)) % (4 : Int32))), .val (.int ((p2 &&& (2147483647 : Int32)) % (5 : Int32))), .val (.ref wc), .val (.ref wp), .unset, .unset, .unset]) rfl k) ?_
    refine own_lift (T' := T15) (f' := (mkF m 28 #[.val (.int p1), .val (.int p2), .val (.int ((p1 &&& (2147483647 : Int32)) % (4 : Int32))), .val (.int ((p2 &&& (2147483647 : Int32)) % (5 : Int32))), .val (.ref wc), .val (.ref wp), .unset, .unset, .unset] [(.ref wc)])) (fun _ k => XS.aload X15.here hx rfl (hb hby at_26) rfl rfl k) ?_
    refine own_lift (T' := T15) (f' := (mkF m 30 #[.val (.int p1), .val (.int p2), .val (.int ((p1 &&& (2147483647 : Int32)) % (4 : Int32))), .val (.int ((p2 &&& (2147483647 : Int32)) % (5 : Int32))), .val (.ref wc), .val (.ref wp), .unset, .unset, .unset] [(.ref wp), (.ref wc)])) (fun _ k => XS.aload X15.here hx rfl (hb hby at_28) rfl rfl k) ?_
    obtain ⟨cq16, kq16, q16a, q16b, q16c⟩ := isOf hZ e15 E_c
    obtain ⟨_, _, ⟨T16, L16, k16, n16⟩, -, Y16, ⟨Lc16, hQ16, l16, y16, z16⟩, st16⟩ := X15.virtualBack hx (y := (⟨"com/example/bindery/bindery/core/ResourceName$Kind", "mayBeCreatedUnder", "(Lcom/example/bindery/bindery/core/ResourceName$Kind;)Z"⟩ : MethodName)) (z := (⟨"com/example/bindery/bindery/core/ResourceName$Kind", "mayBeCreatedUnder", "(Lcom/example/bindery/bindery/core/ResourceName$Kind;)Z"⟩ : MethodName)) hown (mvT hZ (hw _ (List.mem_of_getElem? (i := 10) rfl))) (mvT hZ (hw _ (List.mem_of_getElem? (i := 11) rfl))) (notFace_of_selects (args := #[]) (mvT hZ (hw _ (List.mem_of_getElem? (i := 13) rfl)))) (mvT hZ (hw _ (List.mem_of_getElem? (i := 13) rfl))) (mvT hZ (hw _ (List.mem_of_getElem? (i := 12) rfl))) (by decide) (backOf (W := 0) (rm2 l Z a0 hw [] wc (.ref wp) rfl wO wF wP g h0 S_ORGANIZATION S_FOLDER S_PROJECT hg) hZ (hw _ (List.mem_of_getElem? (i := 14) rfl)) (hw _ (List.mem_of_getElem? (i := 6) rfl)) (by decide) (by decide)) q16a q16c (g := (mkF m 30 #[.val (.int p1), .val (.int p2), .val (.int ((p1 &&& (2147483647 : Int32)) % (4 : Int32))), .val (.int ((p2 &&& (2147483647 : Int32)) % (5 : Int32))), .val (.ref wc), .val (.ref wp), .unset, .unset, .unset] [(.ref wp), (.ref wc)])) rfl (by rw [hml]; rfl) (Steps.refl _) (argsL := [(.ref wp)]) (rest := []) (lenOf pd_2 rfl) rfl (by show 2 * 0 + _ ≤ _; exact Nat.le_of_eq rfl) (hb hby at_30) (fun _ _ => ⟨rfl, e15, (by decide : 0 + 0 ≤ _), (by decide : 0 + 0 ≤ _)⟩)
    dsimp only [Pt.U, Pt.locs, Pt.cells, Pt.slots] at Y16 l16 y16 z16 st16 hQ16
    subst l16 y16 z16
    obtain ⟨rfl, rfl, e16⟩ := hQ16
    have X16 : Stand p l e room_1 s m #[(.int p1), (.int p2)] below meth c T16 [] 0 0 := Y16
    refine own_lift (T' := T16) (f' := (mkF m 33 #[.val (.int p1), .val (.int p2), .val (.int ((p1 &&& (2147483647 : Int32)) % (4 : Int32))), .val (.int ((p2 &&& (2147483647 : Int32)) % (5 : Int32))), .val (.ref wc), .val (.ref wp), .unset, .unset, .unset] [(.int g)])) (fun _ k => st16.trans k) ?_
    refine own_lift (T' := T16) (f' := (mkF m 35 #[.val (.int p1), .val (.int p2), .val (.int ((p1 &&& (2147483647 : Int32)) % (4 : Int32))), .val (.int ((p2 &&& (2147483647 : Int32)) % (5 : Int32))), .val (.ref wc), .val (.ref wp), .val (.int g), .unset, .unset] [])) (fun _ k => XS.istore X16.here hx rfl (hb hby at_33) rfl (l' := #[.val (.int p1), .val (.int p2), .val (.int ((p1 &&& (2147483647 : Int32)) % (4 : Int32))), .val (.int ((p2 &&& (2147483647 : Int32)) % (5 : Int32))), .val (.ref wc), .val (.ref wp), .val (.int g), .unset, .unset]) rfl k) ?_
    refine own_lift (T' := T16) (f' := (mkF m 38 #[.val (.int p1), .val (.int p2), .val (.int ((p1 &&& (2147483647 : Int32)) % (4 : Int32))), .val (.int ((p2 &&& (2147483647 : Int32)) % (5 : Int32))), .val (.ref wc), .val (.ref wp), .val (.int g), .unset, .unset] [(.int (3168 : Int32))])) (fun _ k => XS.sipush X16.here hx rfl (hb hby at_35) k) ?_
    refine own_lift (T' := T16) (f' := (mkF m 40 #[.val (.int p1), .val (.int p2), .val (.int ((p1 &&& (2147483647 : Int32)) % (4 : Int32))), .val (.int ((p2 &&& (2147483647 : Int32)) % (5 : Int32))), .val (.ref wc), .val (.ref wp), .val (.int g), .val (.int (3168 : Int32)), .unset] [])) (fun _ k => XS.istore X16.here hx rfl (hb hby at_38) rfl (l' := #[.val (.int p1), .val (.int p2), .val (.int ((p1 &&& (2147483647 : Int32)) % (4 : Int32))), .val (.int ((p2 &&& (2147483647 : Int32)) % (5 : Int32))), .val (.ref wc), .val (.ref wp), .val (.int g), .val (.int (3168 : Int32)), .unset]) rfl k) ?_
    refine own_lift (T' := T16) (f' := (mkF m 42 #[.val (.int p1), .val (.int p2), .val (.int ((p1 &&& (2147483647 : Int32)) % (4 : Int32))), .val (.int ((p2 &&& (2147483647 : Int32)) % (5 : Int32))), .val (.ref wc), .val (.ref wp), .val (.int g), .val (.int (3168 : Int32)), .unset] [(.int (3168 : Int32))])) (fun _ k => XS.iload X16.here hx rfl (hb hby at_40) rfl k) ?_
    refine own_lift (T' := T16) (f' := (mkF m 43 #[.val (.int p1), .val (.int p2), .val (.int ((p1 &&& (2147483647 : Int32)) % (4 : Int32))), .val (.int ((p2 &&& (2147483647 : Int32)) % (5 : Int32))), .val (.ref wc), .val (.ref wp), .val (.int g), .val (.int (3168 : Int32)), .unset] [(.int ((p1 &&& (2147483647 : Int32)) % (4 : Int32))), (.int (3168 : Int32))])) (fun _ k => XS.iloadN X16.here hx rfl (hb hby at_42) rfl k) ?_
    refine own_lift (T' := T16) (f' := (mkF m 44 #[.val (.int p1), .val (.int p2), .val (.int ((p1 &&& (2147483647 : Int32)) % (4 : Int32))), .val (.int ((p2 &&& (2147483647 : Int32)) % (5 : Int32))), .val (.ref wc), .val (.ref wp), .val (.int g), .val (.int (3168 : Int32)), .unset] [(.int (5 : Int32)), (.int ((p1 &&& (2147483647 : Int32)) % (4 : Int32))), (.int (3168 : Int32))])) (fun _ k => XS.iconst X16.here hx rfl (hb hby at_43) k) ?_
    refine own_lift (T' := T16) (f' := (mkF m 45 #[.val (.int p1), .val (.int p2), .val (.int ((p1 &&& (2147483647 : Int32)) % (4 : Int32))), .val (.int ((p2 &&& (2147483647 : Int32)) % (5 : Int32))), .val (.ref wc), .val (.ref wp), .val (.int g), .val (.int (3168 : Int32)), .unset] [(.int (((p1 &&& (2147483647 : Int32)) % (4 : Int32)) * (5 : Int32))), (.int (3168 : Int32))])) (fun _ k => XS.imul X16.here hx rfl (hb hby at_44) rfl k) ?_
    refine own_lift (T' := T16) (f' := (mkF m 46 #[.val (.int p1), .val (.int p2), .val (.int ((p1 &&& (2147483647 : Int32)) % (4 : Int32))), .val (.int ((p2 &&& (2147483647 : Int32)) % (5 : Int32))), .val (.ref wc), .val (.ref wp), .val (.int g), .val (.int (3168 : Int32)), .unset] [(.int ((p2 &&& (2147483647 : Int32)) % (5 : Int32))), (.int (((p1 &&& (2147483647 : Int32)) % (4 : Int32)) * (5 : Int32))), (.int (3168 : Int32))])) (fun _ k => XS.iloadN X16.here hx rfl (hb hby at_45) rfl k) ?_
    refine own_lift (T' := T16) (f' := (mkF m 47 #[.val (.int p1), .val (.int p2), .val (.int ((p1 &&& (2147483647 : Int32)) % (4 : Int32))), .val (.int ((p2 &&& (2147483647 : Int32)) % (5 : Int32))), .val (.ref wc), .val (.ref wp), .val (.int g), .val (.int (3168 : Int32)), .unset] [(.int ((((p1 &&& (2147483647 : Int32)) % (4 : Int32)) * (5 : Int32)) + ((p2 &&& (2147483647 : Int32)) % (5 : Int32)))), (.int (3168 : Int32))])) (fun _ k => XS.iadd X16.here hx rfl (hb hby at_46) rfl k) ?_
    refine own_lift (T' := T16) (f' := (mkF m 48 #[.val (.int p1), .val (.int p2), .val (.int ((p1 &&& (2147483647 : Int32)) % (4 : Int32))), .val (.int ((p2 &&& (2147483647 : Int32)) % (5 : Int32))), .val (.ref wc), .val (.ref wp), .val (.int g), .val (.int (3168 : Int32)), .unset] [(.int (((3168 : Int32).toUInt32 >>> (((((p1 &&& (2147483647 : Int32)) % (4 : Int32)) * (5 : Int32)) + ((p2 &&& (2147483647 : Int32)) % (5 : Int32))) &&& 31).toUInt32).toInt32))])) (fun _ k => XS.iushr X16.here hx rfl (hb hby at_47) rfl k) ?_
    refine own_lift (T' := T16) (f' := (mkF m 49 #[.val (.int p1), .val (.int p2), .val (.int ((p1 &&& (2147483647 : Int32)) % (4 : Int32))), .val (.int ((p2 &&& (2147483647 : Int32)) % (5 : Int32))), .val (.ref wc), .val (.ref wp), .val (.int g), .val (.int (3168 : Int32)), .unset] [(.int (1 : Int32)), (.int (((3168 : Int32).toUInt32 >>> (((((p1 &&& (2147483647 : Int32)) % (4 : Int32)) * (5 : Int32)) + ((p2 &&& (2147483647 : Int32)) % (5 : Int32))) &&& 31).toUInt32).toInt32))])) (fun _ k => XS.iconst X16.here hx rfl (hb hby at_48) k) ?_
    refine own_lift (T' := T16) (f' := (mkF m 50 #[.val (.int p1), .val (.int p2), .val (.int ((p1 &&& (2147483647 : Int32)) % (4 : Int32))), .val (.int ((p2 &&& (2147483647 : Int32)) % (5 : Int32))), .val (.ref wc), .val (.ref wp), .val (.int g), .val (.int (3168 : Int32)), .unset] [(.int ((((3168 : Int32).toUInt32 >>> (((((p1 &&& (2147483647 : Int32)) % (4 : Int32)) * (5 : Int32)) + ((p2 &&& (2147483647 : Int32)) % (5 : Int32))) &&& 31).toUInt32).toInt32) &&& (1 : Int32)))])) (fun _ k => XS.iand X16.here hx rfl (hb hby at_49) rfl k) ?_
    by_cases hbt : ((((3168 : Int32).toUInt32 >>> (((((p1 &&& (2147483647 : Int32)) % (4 : Int32)) * (5 : Int32)) + ((p2 &&& (2147483647 : Int32)) % (5 : Int32))) &&& 31).toUInt32).toInt32) &&& (1 : Int32)) = (0 : Int32)
    · refine own_lift (T' := T16) (f' := (mkF m 57 #[.val (.int p1), .val (.int p2), .val (.int ((p1 &&& (2147483647 : Int32)) % (4 : Int32))), .val (.int ((p2 &&& (2147483647 : Int32)) % (5 : Int32))), .val (.ref wc), .val (.ref wp), .val (.int g), .val (.int (3168 : Int32)), .unset] [])) (fun _ k => XS.ifYes X16.here hx rfl (pc0 := 50) (pc' := 57) rfl (hb hby at_50) rfl ((if0 _ _).trans (teq hbt).1) (by decide) (by decide) k) ?_
      have hgv : g = (0 : Int32) := by rw [he]; exact if_pos hbt
      refine own_lift (T' := T16) (f' := (mkF m 58 #[.val (.int p1), .val (.int p2), .val (.int ((p1 &&& (2147483647 : Int32)) % (4 : Int32))), .val (.int ((p2 &&& (2147483647 : Int32)) % (5 : Int32))), .val (.ref wc), .val (.ref wp), .val (.int g), .val (.int (3168 : Int32)), .unset] [(.int (0 : Int32))])) (fun _ k => XS.iconst X16.here hx rfl (hb hby at_57) k) ?_
      refine own_lift (T' := T16) (f' := (mkF m 60 #[.val (.int p1), .val (.int p2), .val (.int ((p1 &&& (2147483647 : Int32)) % (4 : Int32))), .val (.int ((p2 &&& (2147483647 : Int32)) % (5 : Int32))), .val (.ref wc), .val (.ref wp), .val (.int g), .val (.int (3168 : Int32)), .val (.int (0 : Int32))] [])) (fun _ k => XS.istore X16.here hx rfl (hb hby at_58) rfl (l' := #[.val (.int p1), .val (.int p2), .val (.int ((p1 &&& (2147483647 : Int32)) % (4 : Int32))), .val (.int ((p2 &&& (2147483647 : Int32)) % (5 : Int32))), .val (.ref wc), .val (.ref wp), .val (.int g), .val (.int (3168 : Int32)), .val (.int (0 : Int32))]) rfl k) ?_
      refine own_lift (T' := T16) (f' := (mkF m 62 #[.val (.int p1), .val (.int p2), .val (.int ((p1 &&& (2147483647 : Int32)) % (4 : Int32))), .val (.int ((p2 &&& (2147483647 : Int32)) % (5 : Int32))), .val (.ref wc), .val (.ref wp), .val (.int g), .val (.int (3168 : Int32)), .val (.int (0 : Int32))] [(.int g)])) (fun _ k => XS.iload X16.here hx rfl (hb hby at_60) rfl k) ?_
      refine own_lift (T' := T16) (f' := (mkF m 64 #[.val (.int p1), .val (.int p2), .val (.int ((p1 &&& (2147483647 : Int32)) % (4 : Int32))), .val (.int ((p2 &&& (2147483647 : Int32)) % (5 : Int32))), .val (.ref wc), .val (.ref wp), .val (.int g), .val (.int (3168 : Int32)), .val (.int (0 : Int32))] [(.int (0 : Int32)), (.int g)])) (fun _ k => XS.iload X16.here hx rfl (hb hby at_62) rfl k) ?_
      refine own_lift (T' := T16) (f' := (mkF m 67 #[.val (.int p1), .val (.int p2), .val (.int ((p1 &&& (2147483647 : Int32)) % (4 : Int32))), .val (.int ((p2 &&& (2147483647 : Int32)) % (5 : Int32))), .val (.ref wc), .val (.ref wp), .val (.int g), .val (.int (3168 : Int32)), .val (.int (0 : Int32))] [])) (fun _ k => XS.icmpNo X16.here hx rfl (hb hby at_64) rfl (teq hgv).2 k) ?_
      refine own_lift (T' := T16) (f' := (mkF m 68 #[.val (.int p1), .val (.int p2), .val (.int ((p1 &&& (2147483647 : Int32)) % (4 : Int32))), .val (.int ((p2 &&& (2147483647 : Int32)) % (5 : Int32))), .val (.ref wc), .val (.ref wp), .val (.int g), .val (.int (3168 : Int32)), .val (.int (0 : Int32))] [(.int (1 : Int32))])) (fun _ k => XS.iconst X16.here hx rfl (hb hby at_67) k) ?_
      refine own_lift (T' := T16) (f' := (mkF m 72 #[.val (.int p1), .val (.int p2), .val (.int ((p1 &&& (2147483647 : Int32)) % (4 : Int32))), .val (.int ((p2 &&& (2147483647 : Int32)) % (5 : Int32))), .val (.ref wc), .val (.ref wp), .val (.int g), .val (.int (3168 : Int32)), .val (.int (0 : Int32))] [(.int (1 : Int32))])) (fun _ k => XS.goto X16.here hx rfl (pc0 := 68) (pc' := 72) rfl (hb hby at_68) (by decide) (by decide) k) ?_
      exact own_retZ X16 hx hlk Bd.returns (hb hby at_72) e16 (by decide) rfl
    · refine own_lift (T' := T16) (f' := (mkF m 53 #[.val (.int p1), .val (.int p2), .val (.int ((p1 &&& (2147483647 : Int32)) % (4 : Int32))), .val (.int ((p2 &&& (2147483647 : Int32)) % (5 : Int32))), .val (.ref wc), .val (.ref wp), .val (.int g), .val (.int (3168 : Int32)), .unset] [])) (fun _ k => XS.ifNo X16.here hx rfl (hb hby at_50) rfl ((if0 _ _).trans (feq hbt).1) k) ?_
      have hgv : g = (1 : Int32) := by rw [he]; exact if_neg hbt
      refine own_lift (T' := T16) (f' := (mkF m 54 #[.val (.int p1), .val (.int p2), .val (.int ((p1 &&& (2147483647 : Int32)) % (4 : Int32))), .val (.int ((p2 &&& (2147483647 : Int32)) % (5 : Int32))), .val (.ref wc), .val (.ref wp), .val (.int g), .val (.int (3168 : Int32)), .unset] [(.int (1 : Int32))])) (fun _ k => XS.iconst X16.here hx rfl (hb hby at_53) k) ?_
      refine own_lift (T' := T16) (f' := (mkF m 58 #[.val (.int p1), .val (.int p2), .val (.int ((p1 &&& (2147483647 : Int32)) % (4 : Int32))), .val (.int ((p2 &&& (2147483647 : Int32)) % (5 : Int32))), .val (.ref wc), .val (.ref wp), .val (.int g), .val (.int (3168 : Int32)), .unset] [(.int (1 : Int32))])) (fun _ k => XS.goto X16.here hx rfl (pc0 := 54) (pc' := 58) rfl (hb hby at_54) (by decide) (by decide) k) ?_
      refine own_lift (T' := T16) (f' := (mkF m 60 #[.val (.int p1), .val (.int p2), .val (.int ((p1 &&& (2147483647 : Int32)) % (4 : Int32))), .val (.int ((p2 &&& (2147483647 : Int32)) % (5 : Int32))), .val (.ref wc), .val (.ref wp), .val (.int g), .val (.int (3168 : Int32)), .val (.int (1 : Int32))] [])) (fun _ k => XS.istore X16.here hx rfl (hb hby at_58) rfl (l' := #[.val (.int p1), .val (.int p2), .val (.int ((p1 &&& (2147483647 : Int32)) % (4 : Int32))), .val (.int ((p2 &&& (2147483647 : Int32)) % (5 : Int32))), .val (.ref wc), .val (.ref wp), .val (.int g), .val (.int (3168 : Int32)), .val (.int (1 : Int32))]) rfl k) ?_
      refine own_lift (T' := T16) (f' := (mkF m 62 #[.val (.int p1), .val (.int p2), .val (.int ((p1 &&& (2147483647 : Int32)) % (4 : Int32))), .val (.int ((p2 &&& (2147483647 : Int32)) % (5 : Int32))), .val (.ref wc), .val (.ref wp), .val (.int g), .val (.int (3168 : Int32)), .val (.int (1 : Int32))] [(.int g)])) (fun _ k => XS.iload X16.here hx rfl (hb hby at_60) rfl k) ?_
      refine own_lift (T' := T16) (f' := (mkF m 64 #[.val (.int p1), .val (.int p2), .val (.int ((p1 &&& (2147483647 : Int32)) % (4 : Int32))), .val (.int ((p2 &&& (2147483647 : Int32)) % (5 : Int32))), .val (.ref wc), .val (.ref wp), .val (.int g), .val (.int (3168 : Int32)), .val (.int (1 : Int32))] [(.int (1 : Int32)), (.int g)])) (fun _ k => XS.iload X16.here hx rfl (hb hby at_62) rfl k) ?_
      refine own_lift (T' := T16) (f' := (mkF m 67 #[.val (.int p1), .val (.int p2), .val (.int ((p1 &&& (2147483647 : Int32)) % (4 : Int32))), .val (.int ((p2 &&& (2147483647 : Int32)) % (5 : Int32))), .val (.ref wc), .val (.ref wp), .val (.int g), .val (.int (3168 : Int32)), .val (.int (1 : Int32))] [])) (fun _ k => XS.icmpNo X16.here hx rfl (hb hby at_64) rfl (teq hgv).2 k) ?_
      refine own_lift (T' := T16) (f' := (mkF m 68 #[.val (.int p1), .val (.int p2), .val (.int ((p1 &&& (2147483647 : Int32)) % (4 : Int32))), .val (.int ((p2 &&& (2147483647 : Int32)) % (5 : Int32))), .val (.ref wc), .val (.ref wp), .val (.int g), .val (.int (3168 : Int32)), .val (.int (1 : Int32))] [(.int (1 : Int32))])) (fun _ k => XS.iconst X16.here hx rfl (hb hby at_67) k) ?_
      refine own_lift (T' := T16) (f' := (mkF m 72 #[.val (.int p1), .val (.int p2), .val (.int ((p1 &&& (2147483647 : Int32)) % (4 : Int32))), .val (.int ((p2 &&& (2147483647 : Int32)) % (5 : Int32))), .val (.ref wc), .val (.ref wp), .val (.int g), .val (.int (3168 : Int32)), .val (.int (1 : Int32))] [(.int (1 : Int32))])) (fun _ k => XS.goto X16.here hx rfl (pc0 := 68) (pc' := 72) rfl (hb hby at_68) (by decide) (by decide) k) ?_
      exact own_retZ X16 hx hlk Bd.returns (hb hby at_72) e16 (by decide) rfl
set_option maxRecDepth 65536 in
set_option maxHeartbeats 40000000 in
theorem comes_1 {Post : Tables → Env → Array Value → State → Outcome → State → Prop} (hpost : ∀ tb e args s v u, (limb_1_1.after args s (.returned v) u = true ∧ limb_1_2.after args s (.returned v) u = true ∧ True) → FrameEnd s (.returned v) u (Jvm.fieldLocs frame_1_writes args s ++ Jvm.arrayLocs frame_1_arrays args s ++ Jvm.staticLocs frame_1_statics s) 0 0 → Post tb e args s (.returned v) u) :
    ArmFor flags0 classFile x code maxLocals ret World_1 tables_1 room_1 Calls_1 rest_1 Pre_1 Post := by
  intro l hfl _ _ p e ha hc hk s m args below hf hA hF happ hP
  obtain ⟨hcalls, hrest, hpre⟩ := hP
  obtain ⟨-, -, -, hnamed, -, -, -, hat⟩ := (Spec.applies_iff hf).mp happ
  obtain ⟨hg, hn⟩ := and_e (Cond.before_iff.mp (show (Jvm.Cond.and given_1 narrow_1).before args s = true from hpre))
  obtain ⟨g0, hg⟩ := and_e hg
  obtain ⟨w0, w1, rfl⟩ : ∃ w0 w1 : Value, args = #[w0, w1] := by
    have hs : args.size = 2 := by simpa [Cond.value, given_1] using g0
    obtain ⟨L⟩ := args
    match L, hs with
    | [w0, w1], _ => exact ⟨w0, w1, rfl⟩
  have hw := fun d (hd : d ∈ tables_1) => atoms_spec (ws := Jvm.Cond.code x code maxLocals ret :: tables_1) hat d (List.mem_cons_of_mem _ hd)
  obtain ⟨g1, hg⟩ := and_e hg
  obtain ⟨i0, ei0⟩ := is_v g1
  obtain rfl : w0 = (.int i0) := Option.some.inj ei0
  obtain ⟨i1, ei1⟩ := is_v hg
  obtain rfl : w1 = (.int i1) := Option.some.inj ei1
  obtain ⟨c0, hn⟩ := and_e hn
  obtain ⟨c1, hn⟩ := and_e hn
  obtain ⟨c2, hn⟩ := and_e hn
  obtain ⟨c3, hn⟩ := and_e hn
  obtain ⟨c4, hn⟩ := and_e hn
  obtain ⟨c5, hn⟩ := and_e hn
  obtain ⟨c6, hn⟩ := and_e hn
  have c7 := hn
  obtain ⟨a_ORGANIZATION, ev_ORGANIZATION⟩ := exa_v c0
  have S_ORGANIZATION : Sta s s.heap "com/example/bindery/bindery/core/ResourceName$Kind" "ORGANIZATION" "Lcom/example/bindery/bindery/core/ResourceName$Kind;" (.ref a_ORGANIZATION) := Sta.start ev_ORGANIZATION (Or.inr ⟨(hw _ (List.mem_of_getElem? (i := 6) rfl)), (hw _ (List.mem_of_getElem? (i := 7) rfl))⟩)
  have E_ORGANIZATION : Exa s s.heap a_ORGANIZATION "com/example/bindery/bindery/core/ResourceName$Kind" := Exa.start ev_ORGANIZATION c0
  obtain ⟨a_PROJECT_RESOURCE, ev_PROJECT_RESOURCE⟩ := exa_v c1
  have S_PROJECT_RESOURCE : Sta s s.heap "com/example/bindery/bindery/core/ResourceName$Kind" "PROJECT_RESOURCE" "Lcom/example/bindery/bindery/core/ResourceName$Kind;" (.ref a_PROJECT_RESOURCE) := Sta.start ev_PROJECT_RESOURCE (Or.inr ⟨(hw _ (List.mem_of_getElem? (i := 6) rfl)), (hw _ (List.mem_of_getElem? (i := 9) rfl))⟩)
  have E_PROJECT_RESOURCE : Exa s s.heap a_PROJECT_RESOURCE "com/example/bindery/bindery/core/ResourceName$Kind" := Exa.start ev_PROJECT_RESOURCE c1
  obtain ⟨a_FOLDER, ev_FOLDER⟩ := exa_v c2
  have S_FOLDER : Sta s s.heap "com/example/bindery/bindery/core/ResourceName$Kind" "FOLDER" "Lcom/example/bindery/bindery/core/ResourceName$Kind;" (.ref a_FOLDER) := Sta.start ev_FOLDER (Or.inr ⟨(hw _ (List.mem_of_getElem? (i := 6) rfl)), (hw _ (List.mem_of_getElem? (i := 16) rfl))⟩)
  have E_FOLDER : Exa s s.heap a_FOLDER "com/example/bindery/bindery/core/ResourceName$Kind" := Exa.start ev_FOLDER c2
  obtain ⟨a_PROJECT, ev_PROJECT⟩ := exa_v c5
  have S_PROJECT : Sta s s.heap "com/example/bindery/bindery/core/ResourceName$Kind" "PROJECT" "Lcom/example/bindery/bindery/core/ResourceName$Kind;" (.ref a_PROJECT) := Sta.start ev_PROJECT (Or.inr ⟨(hw _ (List.mem_of_getElem? (i := 6) rfl)), (hw _ (List.mem_of_getElem? (i := 18) rfl))⟩)
  have E_PROJECT : Exa s s.heap a_PROJECT "com/example/bindery/bindery/core/ResourceName$Kind" := Exa.start ev_PROJECT c5
  have F_ORGANIZATION_ordinal : Fld s s.heap a_ORGANIZATION "java/lang/Enum" "ordinal" "I" (.int (0 : Int32)) := Fld.start (own_fld ev_ORGANIZATION c3)
  have F_FOLDER_ordinal : Fld s s.heap a_FOLDER "java/lang/Enum" "ordinal" "I" (.int (1 : Int32)) := Fld.start (own_fld ev_FOLDER c4)
  have F_PROJECT_ordinal : Fld s s.heap a_PROJECT "java/lang/Enum" "ordinal" "I" (.int (2 : Int32)) := Fld.start (own_fld ev_PROJECT c6)
  have F_PROJECT_RESOURCE_ordinal : Fld s s.heap a_PROJECT_RESOURCE "java/lang/Enum" "ordinal" "I" (.int (3 : Int32)) := Fld.start (own_fld ev_PROJECT_RESOURCE c7)
  have n01 : a_ORGANIZATION ≠ a_FOLDER := Fld.ne F_ORGANIZATION_ordinal F_FOLDER_ordinal (by decide)
  have n02 : a_ORGANIZATION ≠ a_PROJECT := Fld.ne F_ORGANIZATION_ordinal F_PROJECT_ordinal (by decide)
  have n03 : a_ORGANIZATION ≠ a_PROJECT_RESOURCE := Fld.ne F_ORGANIZATION_ordinal F_PROJECT_RESOURCE_ordinal (by decide)
  have n10 : a_FOLDER ≠ a_ORGANIZATION := Fld.ne F_FOLDER_ordinal F_ORGANIZATION_ordinal (by decide)
  have n12 : a_FOLDER ≠ a_PROJECT := Fld.ne F_FOLDER_ordinal F_PROJECT_ordinal (by decide)
  have n13 : a_FOLDER ≠ a_PROJECT_RESOURCE := Fld.ne F_FOLDER_ordinal F_PROJECT_RESOURCE_ordinal (by decide)
  have n20 : a_PROJECT ≠ a_ORGANIZATION := Fld.ne F_PROJECT_ordinal F_ORGANIZATION_ordinal (by decide)
  have n21 : a_PROJECT ≠ a_FOLDER := Fld.ne F_PROJECT_ordinal F_FOLDER_ordinal (by decide)
  have n23 : a_PROJECT ≠ a_PROJECT_RESOURCE := Fld.ne F_PROJECT_ordinal F_PROJECT_RESOURCE_ordinal (by decide)
  have n30 : a_PROJECT_RESOURCE ≠ a_ORGANIZATION := Fld.ne F_PROJECT_RESOURCE_ordinal F_ORGANIZATION_ordinal (by decide)
  have n31 : a_PROJECT_RESOURCE ≠ a_FOLDER := Fld.ne F_PROJECT_RESOURCE_ordinal F_FOLDER_ordinal (by decide)
  have n32 : a_PROJECT_RESOURCE ≠ a_PROJECT := Fld.ne F_PROJECT_RESOURCE_ordinal F_PROJECT_ordinal (by decide)
  obtain ⟨wc, pv, g, q1, q2, q3, q4, q5, q6⟩ : ∃ (wc : Addr) (pv : Value) (g : Int32), Value.ref wc = own_kind ((i0 &&& (2147483647 : Int32)) % (4 : Int32)) a_ORGANIZATION a_FOLDER a_PROJECT a_PROJECT_RESOURCE ∧ pv.isRef = true ∧ pv = own_kind ((i1 &&& (2147483647 : Int32)) % (5 : Int32)) a_ORGANIZATION a_FOLDER a_PROJECT a_PROJECT_RESOURCE ∧ Exa s s.heap wc "com/example/bindery/bindery/core/ResourceName$Kind" ∧ g = own_got wc pv a_ORGANIZATION a_FOLDER a_PROJECT ∧ g = (if own_bit ((i0 &&& (2147483647 : Int32)) % (4 : Int32)) ((i1 &&& (2147483647 : Int32)) % (5 : Int32)) = 0 then 0 else 1) := by
    obtain ⟨j, hj, ej⟩ := own_idx i0 4 (by decide)
    obtain ⟨i, hi, ei⟩ := own_idx i1 5 (by decide)
    have hj4 : j = 0 ∨ j = 1 ∨ j = 2 ∨ j = 3 := by have q : (4 : Int32).toInt = 4 := rfl; omega
    have hi5 : i = 0 ∨ i = 1 ∨ i = 2 ∨ i = 3 ∨ i = 4 := by have q : (5 : Int32).toInt = 5 := rfl; omega
    rw [ej, ei]
    rcases hj4 with rfl | rfl | rfl | rfl <;> rcases hi5 with rfl | rfl | rfl | rfl | rfl
    · exact ⟨a_ORGANIZATION, (.ref a_ORGANIZATION), 0, rfl, rfl, rfl, E_ORGANIZATION, by simp [own_got, n01, n02, n03, n10, n12, n13, n20, n21, n23, n30, n31, n32], by decide⟩
    · exact ⟨a_ORGANIZATION, (.ref a_FOLDER), 0, rfl, rfl, rfl, E_ORGANIZATION, by simp [own_got, n01, n02, n03, n10, n12, n13, n20, n21, n23, n30, n31, n32], by decide⟩
    · exact ⟨a_ORGANIZATION, (.ref a_PROJECT), 0, rfl, rfl, rfl, E_ORGANIZATION, by simp [own_got, n01, n02, n03, n10, n12, n13, n20, n21, n23, n30, n31, n32], by decide⟩
    · exact ⟨a_ORGANIZATION, (.ref a_PROJECT_RESOURCE), 0, rfl, rfl, rfl, E_ORGANIZATION, by simp [own_got, n01, n02, n03, n10, n12, n13, n20, n21, n23, n30, n31, n32], by decide⟩
    · exact ⟨a_ORGANIZATION, .null, 0, rfl, rfl, rfl, E_ORGANIZATION, by simp [own_got, n01, n02, n03, n10, n12, n13, n20, n21, n23, n30, n31, n32], by decide⟩
    · exact ⟨a_FOLDER, (.ref a_ORGANIZATION), 1, rfl, rfl, rfl, E_FOLDER, by simp [own_got, n01, n02, n03, n10, n12, n13, n20, n21, n23, n30, n31, n32], by decide⟩
    · exact ⟨a_FOLDER, (.ref a_FOLDER), 1, rfl, rfl, rfl, E_FOLDER, by simp [own_got, n01, n02, n03, n10, n12, n13, n20, n21, n23, n30, n31, n32], by decide⟩
    · exact ⟨a_FOLDER, (.ref a_PROJECT), 0, rfl, rfl, rfl, E_FOLDER, by simp [own_got, n01, n02, n03, n10, n12, n13, n20, n21, n23, n30, n31, n32], by decide⟩
    · exact ⟨a_FOLDER, (.ref a_PROJECT_RESOURCE), 0, rfl, rfl, rfl, E_FOLDER, by simp [own_got, n01, n02, n03, n10, n12, n13, n20, n21, n23, n30, n31, n32], by decide⟩
    · exact ⟨a_FOLDER, .null, 0, rfl, rfl, rfl, E_FOLDER, by simp [own_got, n01, n02, n03, n10, n12, n13, n20, n21, n23, n30, n31, n32], by decide⟩
    · exact ⟨a_PROJECT, (.ref a_ORGANIZATION), 1, rfl, rfl, rfl, E_PROJECT, by simp [own_got, n01, n02, n03, n10, n12, n13, n20, n21, n23, n30, n31, n32], by decide⟩
    · exact ⟨a_PROJECT, (.ref a_FOLDER), 1, rfl, rfl, rfl, E_PROJECT, by simp [own_got, n01, n02, n03, n10, n12, n13, n20, n21, n23, n30, n31, n32], by decide⟩
    · exact ⟨a_PROJECT, (.ref a_PROJECT), 0, rfl, rfl, rfl, E_PROJECT, by simp [own_got, n01, n02, n03, n10, n12, n13, n20, n21, n23, n30, n31, n32], by decide⟩
    · exact ⟨a_PROJECT, (.ref a_PROJECT_RESOURCE), 0, rfl, rfl, rfl, E_PROJECT, by simp [own_got, n01, n02, n03, n10, n12, n13, n20, n21, n23, n30, n31, n32], by decide⟩
    · exact ⟨a_PROJECT, .null, 0, rfl, rfl, rfl, E_PROJECT, by simp [own_got, n01, n02, n03, n10, n12, n13, n20, n21, n23, n30, n31, n32], by decide⟩
    · exact ⟨a_PROJECT_RESOURCE, (.ref a_ORGANIZATION), 0, rfl, rfl, rfl, E_PROJECT_RESOURCE, by simp [own_got, n01, n02, n03, n10, n12, n13, n20, n21, n23, n30, n31, n32], by decide⟩
    · exact ⟨a_PROJECT_RESOURCE, (.ref a_FOLDER), 0, rfl, rfl, rfl, E_PROJECT_RESOURCE, by simp [own_got, n01, n02, n03, n10, n12, n13, n20, n21, n23, n30, n31, n32], by decide⟩
    · exact ⟨a_PROJECT_RESOURCE, (.ref a_PROJECT), 0, rfl, rfl, rfl, E_PROJECT_RESOURCE, by simp [own_got, n01, n02, n03, n10, n12, n13, n20, n21, n23, n30, n31, n32], by decide⟩
    · exact ⟨a_PROJECT_RESOURCE, (.ref a_PROJECT_RESOURCE), 0, rfl, rfl, rfl, E_PROJECT_RESOURCE, by simp [own_got, n01, n02, n03, n10, n12, n13, n20, n21, n23, n30, n31, n32], by decide⟩
    · exact ⟨a_PROJECT_RESOURCE, .null, 0, rfl, rfl, rfl, E_PROJECT_RESOURCE, by simp [own_got, n01, n02, n03, n10, n12, n13, n20, n21, n23, n30, n31, n32], by decide⟩
  obtain ⟨n, o, h1, h2, h3, _, L, rfl, ⟨rfl, rfl, -⟩, hq⟩ := rm0 l s _ hw tables_1 i0 i1 a_ORGANIZATION a_FOLDER a_PROJECT a_PROJECT_RESOURCE wc pv g s.heap S_ORGANIZATION S_FOLDER S_PROJECT S_PROJECT_RESOURCE q1 q2 q3 q4 q5 q6 p e ha hc hk s m _ below hf ((Spec.applies_iff_loose hf).mp happ).1 ⟨rfl, State.Warmed39.refl s, rfl⟩ trivial
  refine ⟨n, _, h1, h2, h3, hpost _ _ _ _ _ _ ⟨Cond.after_iff.mpr rfl, Cond.after_iff.mpr (eq_i res_at (Term.int_eval (1)) rfl), trivial⟩ ⟨hq.1, hq.2.1, (hq.2.2.sift fun y hy => Or.inr (Fr.nil s.heap.size y hy)).mono (by decide) (by decide)⟩⟩
theorem main_1_1 : Claimed_1_1 := comes_1 fun _ _ _ _ _ _ h hF => ⟨h.1, hF⟩
theorem main_1_2 : Claimed_1_2 := comes_1 fun _ _ _ _ _ _ h hF => ⟨h.2.1, hF⟩
end Jvm.Pilot.@@N@@
namespace Jvm.Pilot.@@N@@
open Jvm Jvm.ClassFile Sem Op Lib Jvm.Free Jvm.Stand Jvm.Pilot.@@N@@.Jvm.D
/-! MADE BY PROGRAM (witnessworld.py) out of the Statement's table words and the real class files: 12 classes; the members and pool entries that the words name. The judged class is class 1, her method 2. -/
namespace start1
open Jvm.ClassFile
def u (s : String) : CpInfo := .utf8 (stringToUtf16 s)
/-- a pool by its gaps: so many unusable entries, then the entry; so many at the end -/
def gap : Nat → List CpInfo → List CpInfo
  | 0, r => r
  | n + 1, r => .unusable :: gap n r
def poolList (es : List (Nat × CpInfo)) (last : Nat) : List CpInfo := es.foldr (fun e r => gap e.1 (e.2 :: r)) (gap last [])
def pool (es : List (Nat × CpInfo)) (last : Nat) : Array CpInfo := ⟨poolList es last⟩
def fileOf (pool : Array CpInfo) (this : Nat) (attrs : Array Attribute := #[]) (ms : Array MethodInfo := #[]) (fl : Nat := 33) (sup : Nat := 0) (ifs : Array Nat := #[]) (fds : Array FieldInfo := #[]) : ClassFile where
  minorVersion := 0
  majorVersion := 65
  constantPool := pool
  accessFlags := fl
  thisClass := this
  superClass := sup
  interfaces := ifs
  fields := fds
  methods := ms
  attributes := attrs
def plain (name : String) (sup : Option ClassId) : Class where
  name := name
  kind := .ordinary
  loader := none
  accessFlags := 33
  super := sup
  interfaces := #[]
  cf := none
  fields := #[]
  methods := #[]
  instanceTypes := #[]
  staticTypes := #[]
  resolved := #[]
  callSites := []
  init := .initialized
  statics := none
  mirror := none

def pool0 : Array CpInfo := pool [(5, u "<init>"), (0, u "()V"), (1, .class_ 10), (1, u "java/lang/Object")] 113

def k0m0 : Method := { name := "<init>", desc := "()V", sig := { parameters := [], returnType := none }, accessFlags := 1, code := none }
/-- java/lang/Object -/
def k0 : Class := { plain "java/lang/Object" none with
  accessFlags := 33
  interfaces := #[]
  cf := some (fileOf pool0 8 #[] #[{ accessFlags := 1, nameIndex := 5, descriptorIndex := 6, attributes := #[] }] 33 0 #[] #[])
  fields := #[]
  methods := #[k0m0]
  instanceTypes := #[]
  staticTypes := #[]
  resolved := Array.replicate 124 none
  statics := none }

def pool1 : Array CpInfo := pool [(2, .class_ 4), (1, u "java/lang/Object"), (0, u "<init>"), (0, u "()V"), (0, .fieldref 8 9), (0, .class_ 10), (0, .nameAndType 11 12), (0, u "com/example/bindery/bindery/core/ResourceName$Kind"), (0, u "ORGANIZATION"), (0, u "Lcom/example/bindery/bindery/core/ResourceName$Kind;"), (0, .fieldref 8 14), (0, .nameAndType 15 12), (0, u "FOLDER"), (0, .fieldref 8 17), (0, .nameAndType 18 12), (0, u "PROJECT"), (0, .fieldref 8 20), (0, .nameAndType 21 12), (0, u "PROJECT_RESOURCE"), (0, .integer 2147483647), (0, .methodref 24 25), (0, .class_ 26), (0, .nameAndType 27 28), (0, u "com/example/bindery/bindery/core/KindMayBeCreatedUnderPinLaw"), (0, u "kindOf"), (0, u "(I)Lcom/example/bindery/bindery/core/ResourceName$Kind;"), (0, .methodref 8 30), (0, .nameAndType 31 32), (0, u "mayBeCreatedUnder"), (0, u "(Lcom/example/bindery/bindery/core/ResourceName$Kind;)Z"), (3, u "law"), (0, u "(II)Z")] 6

def k1m0 : Method := { name := "<init>", desc := "()V", sig := { parameters := [], returnType := none }, accessFlags := 1, code := none }
def k1c1 : Code := { maxStack := 2, maxLocals := 1, code := method_2_code, exceptionTable := #[], attributes := #[] }
def k1m1 : Method := { name := "kindOf", desc := "(I)Lcom/example/bindery/bindery/core/ResourceName$Kind;", sig := { parameters := [.int], returnType := some (.object "com/example/bindery/bindery/core/ResourceName$Kind") }, accessFlags := 10, code := some k1c1 }
def k1c2 : Code := { maxStack := 3, maxLocals := 9, code := code, exceptionTable := #[], attributes := #[] }
def k1m2 : Method := { name := "law", desc := "(II)Z", sig := { parameters := [.int, .int], returnType := some .boolean }, accessFlags := 9, code := some k1c2 }
/-- com/example/bindery/bindery/core/KindMayBeCreatedUnderPinLaw -/
def k1 : Class := { plain "com/example/bindery/bindery/core/KindMayBeCreatedUnderPinLaw" (some 0) with
  accessFlags := 49
  interfaces := #[]
  cf := some (fileOf pool1 24 #[] #[{ accessFlags := 1, nameIndex := 5, descriptorIndex := 6, attributes := #[] }, { accessFlags := 10, nameIndex := 27, descriptorIndex := 28, attributes := #[] }, { accessFlags := 9, nameIndex := 36, descriptorIndex := 37, attributes := #[] }] 49 2 #[] #[])
  fields := #[]
  methods := #[k1m0, k1m1, k1m2]
  instanceTypes := #[]
  staticTypes := #[]
  resolved := Array.replicate 44 none
  statics := none }

def pool2 : Array CpInfo := pool [(1, .class_ 2), (0, u "java/lang/constant/Constable"), (0, .class_ 4), (0, u "java/lang/Object")] 6

/-- java/lang/constant/Constable -/
def k2 : Class := { plain "java/lang/constant/Constable" (some 0) with
  accessFlags := 1537
  interfaces := #[]
  cf := some (fileOf pool2 1 #[] #[] 1537 3 #[] #[])
  fields := #[]
  methods := #[]
  instanceTypes := #[]
  staticTypes := #[]
  resolved := Array.replicate 11 none
  statics := none }

def pool3 : Array CpInfo := pool [(1, .class_ 2), (0, u "java/lang/Comparable"), (0, .class_ 4), (0, u "java/lang/Object")] 7

/-- java/lang/Comparable -/
def k3 : Class := { plain "java/lang/Comparable" (some 0) with
  accessFlags := 1537
  interfaces := #[]
  cf := some (fileOf pool3 1 #[] #[] 1537 3 #[] #[])
  fields := #[]
  methods := #[]
  instanceTypes := #[]
  staticTypes := #[]
  resolved := Array.replicate 12 none
  statics := none }

def pool4 : Array CpInfo := pool [(1, .class_ 2), (0, u "java/io/Serializable"), (0, .class_ 4), (0, u "java/lang/Object")] 2

/-- java/io/Serializable -/
def k4 : Class := { plain "java/io/Serializable" (some 0) with
  accessFlags := 1537
  interfaces := #[]
  cf := some (fileOf pool4 1 #[] #[] 1537 3 #[] #[])
  fields := #[]
  methods := #[]
  instanceTypes := #[]
  staticTypes := #[]
  resolved := Array.replicate 7 none
  statics := none }

def pool5 : Array CpInfo := pool [(2, .class_ 4), (1, u "java/lang/Enum"), (0, u "name"), (0, u "Ljava/lang/String;"), (2, u "ordinal"), (0, u "I"), (1, .class_ 14), (1, u "java/lang/Object"), (4, u "hash"), (86, .class_ 108), (1, u "java/lang/Enum$EnumDesc"), (2, .class_ 112), (0, u "java/lang/constant/Constable"), (0, .class_ 114), (0, u "java/lang/Comparable"), (0, .class_ 116), (0, u "java/io/Serializable")] 87

/-- java/lang/Enum -/
def k5 : Class := { plain "java/lang/Enum" (some 0) with
  accessFlags := 1057
  interfaces := #[2, 3, 4]
  cf := some (fileOf pool5 2 #[.nestMembers #[106]] #[] 1057 12 #[111, 113, 115] #[{ accessFlags := 18, nameIndex := 5, descriptorIndex := 6, attributes := #[] }, { accessFlags := 18, nameIndex := 9, descriptorIndex := 10, attributes := #[] }, { accessFlags := 2, nameIndex := 19, descriptorIndex := 10, attributes := #[] }])
  fields := #[{ name := "name", type := (.object "java/lang/String"), accessFlags := 18, slot := 0, constantValue := 0 }, { name := "ordinal", type := .int, accessFlags := 18, slot := 1, constantValue := 0 }, { name := "hash", type := .int, accessFlags := 2, slot := 2, constantValue := 0 }]
  methods := #[]
  instanceTypes := #[(.object "java/lang/String"), .int, .int]
  staticTypes := #[]
  resolved := Array.replicate 204 none
  statics := none }

def pool6 : Array CpInfo := pool [(1, .class_ 2), (0, u "com/example/bindery/bindery/core/ResourceName$Kind"), (0, .fieldref 1 4), (0, .nameAndType 5 6), (0, u "ORGANIZATION"), (0, u "Lcom/example/bindery/bindery/core/ResourceName$Kind;"), (0, .fieldref 1 8), (0, .nameAndType 9 6), (0, u "FOLDER"), (0, .fieldref 1 11), (0, .nameAndType 12 6), (0, u "PROJECT"), (2, u "PROJECT_RESOURCE"), (2, u "$VALUES"), (0, u "[Lcom/example/bindery/bindery/core/ResourceName$Kind;"), (6, .class_ 28), (1, u "java/lang/Enum"), (8, u "collection"), (0, u "Ljava/lang/String;"), (24, u "mayBeCreatedUnder"), (0, u "(Lcom/example/bindery/bindery/core/ResourceName$Kind;)Z"), (7, .class_ 73), (0, u "com/example/bindery/bindery/core/ResourceName")] 2

def k6c0 : Code := { maxStack := 2, maxLocals := 2, code := prog_13_method_4_code, exceptionTable := #[], attributes := #[] }
def k6m0 : Method := { name := "mayBeCreatedUnder", desc := "(Lcom/example/bindery/bindery/core/ResourceName$Kind;)Z", sig := { parameters := [(.object "com/example/bindery/bindery/core/ResourceName$Kind")], returnType := some .boolean }, accessFlags := 1, code := some k6c0 }
/-- com/example/bindery/bindery/core/ResourceName$Kind -/
def k6 : Class := { plain "com/example/bindery/bindery/core/ResourceName$Kind" (some 5) with
  accessFlags := 16433
  interfaces := #[]
  cf := some (fileOf pool6 1 #[.nestHost 72] #[{ accessFlags := 1, nameIndex := 63, descriptorIndex := 64, attributes := #[] }] 16433 26 #[] #[{ accessFlags := 16409, nameIndex := 5, descriptorIndex := 6, attributes := #[] }, { accessFlags := 16409, nameIndex := 9, descriptorIndex := 6, attributes := #[] }, { accessFlags := 16409, nameIndex := 12, descriptorIndex := 6, attributes := #[] }, { accessFlags := 16409, nameIndex := 15, descriptorIndex := 6, attributes := #[] }, { accessFlags := 18, nameIndex := 37, descriptorIndex := 38, attributes := #[] }, { accessFlags := 4122, nameIndex := 18, descriptorIndex := 19, attributes := #[] }])
  fields := #[{ name := "ORGANIZATION", type := (.object "com/example/bindery/bindery/core/ResourceName$Kind"), accessFlags := 16409, slot := 0, constantValue := 0 }, { name := "FOLDER", type := (.object "com/example/bindery/bindery/core/ResourceName$Kind"), accessFlags := 16409, slot := 1, constantValue := 0 }, { name := "PROJECT", type := (.object "com/example/bindery/bindery/core/ResourceName$Kind"), accessFlags := 16409, slot := 2, constantValue := 0 }, { name := "PROJECT_RESOURCE", type := (.object "com/example/bindery/bindery/core/ResourceName$Kind"), accessFlags := 16409, slot := 3, constantValue := 0 }, { name := "collection", type := (.object "java/lang/String"), accessFlags := 18, slot := 3, constantValue := 0 }, { name := "$VALUES", type := (.array (.object "com/example/bindery/bindery/core/ResourceName$Kind")), accessFlags := 4122, slot := 4, constantValue := 0 }]
  methods := #[k6m0]
  instanceTypes := #[(.object "java/lang/String"), .int, .int, (.object "java/lang/String")]
  staticTypes := #[(.object "com/example/bindery/bindery/core/ResourceName$Kind"), (.object "com/example/bindery/bindery/core/ResourceName$Kind"), (.object "com/example/bindery/bindery/core/ResourceName$Kind"), (.object "com/example/bindery/bindery/core/ResourceName$Kind"), (.array (.object "com/example/bindery/bindery/core/ResourceName$Kind"))]
  resolved := Array.replicate 76 none
  statics := some 0 }

def pool7 : Array CpInfo := pool [(1, u "java/lang/Cloneable"), (0, .class_ 1), (0, u "java/lang/Object"), (0, .class_ 3)] 3

/-- java/lang/Cloneable -/
def k7 : Class := { plain "java/lang/Cloneable" (some 0) with
  accessFlags := 1537
  interfaces := #[]
  cf := some (fileOf pool7 2 #[] #[] 1537 4 #[] #[])
  fields := #[]
  methods := #[]
  instanceTypes := #[]
  staticTypes := #[]
  resolved := Array.replicate 8 none
  statics := none }

/-- the primitive byte -/
def k8 : Class := { plain "byte" none with kind := .primitive 'B', accessFlags := 0x411 }
/-- [B -/
def k9 : Class := { plain "[B" (some 0) with kind := .array 8 .byte, interfaces := #[7, 4], accessFlags := 1041 }

/-- the primitive int -/
def k10 : Class := { plain "int" none with kind := .primitive 'I', accessFlags := 0x411 }
/-- [I -/
def k11 : Class := { plain "[I" (some 0) with kind := .array 10 .int, interfaces := #[7, 4], accessFlags := 1041 }

def heap : Heap := #[{ cls := 6, slots := #[.ref 1, .ref 2, .ref 3, .ref 4, .null], vm := .statics 6 },
  { cls := 6, slots := #[.null, .int 0, .int 0, .null], vm := .none },
  { cls := 6, slots := #[.null, .int 1, .int 0, .null], vm := .none },
  { cls := 6, slots := #[.null, .int 2, .int 0, .null], vm := .none },
  { cls := 6, slots := #[.null, .int 3, .int 0, .null], vm := .none }]
def classes : Array Class := #[k0, k1, k2, k3, k4, k5, k6, k7, k8, k9, k10, k11]
def interned : List (Array UInt16 × Addr) := []
def slotsUsed : Nat := 21
def theMethod : MethodId := ⟨1, 2⟩
def args0 : Array Value := #[.int 5, .int 6]
def aboutOver (below : List Frame) : State where
  vm := { classes := classes, interned := interned.toArray }
  heap := heap
  slotsUsed := slotsUsed
  threads := #[{ frames := .invoking theMethod args0 :: below }]
def below0 : List Frame := [.native { method := ⟨0, 0⟩, args := #[] }]
def about1 : State := aboutOver below0
def p0 : Program := .bare "" "" ""
def e0 : Env := launch0.env 0 0 0
theorem w_frames : about1.frames = Frame.invoking theMethod args0 :: below0 := rfl
set_option maxRecDepth 65536 in
theorem w_args : argsFit about1.vm theMethod args0 = true := by decide +kernel
set_option maxRecDepth 65536 in
theorem w_heap : heapFits about1 = true := by decide +kernel
set_option maxRecDepth 65536 in
theorem w_runnable : about1.curStatus? = some .runnable := by decide +kernel
set_option maxRecDepth 65536 in
theorem w_alone : about1.alone = true := by decide +kernel
set_option maxRecDepth 65536 in
theorem w_named : about1.methodNamed? x = some theMethod := by decide +kernel
set_option maxRecDepth 65536 in
theorem w_hears : about1.hears theMethod below0 = true := by decide +kernel
set_option maxRecDepth 65536 in
theorem w_ripe : about1.ripe theMethod args0 below0 = true := by decide +kernel
theorem w_running : about1.status = .running := rfl
set_option maxRecDepth 65536 in
theorem w_room : about1.hasRoom e0.platform room_1 = true :=
  launch0.hasRoom_least _ room_1 (by decide +kernel) (by decide +kernel) (by decide +kernel) (by decide +kernel) (by decide +kernel) (by decide +kernel)
theorem allAtoms_all (ts : List Jvm.Cond) (a : Array Jvm.Value) (st : Jvm.State) : (allAtoms ts).before a st = ts.all (fun c => c.before a st) := by
  induction ts with
  | nil => rfl
  | cons c t ih =>
    show (Jvm.Cond.and c (allAtoms t)).before a st = _
    rw [Jvm.Cond.before_and, ih, List.all_cons]
def words1 : List Jvm.Cond := Jvm.Cond.code x code maxLocals ret :: tables_1
/-- a 'code' word, met by the world's own term for the bytes: nothing is compared byte by byte -/
theorem code_word {y : MethodName} {bytes : ByteArray} {mx : Nat} {rt : Option FieldType} {a : Array Value} {s : State} {m : MethodId} {meth : Method} {c : Code} (h1 : s.methodNamed? y = some m) (h2 : s.vm.method? m = some meth) (h3 : meth.code = some c) (h4 : c.code = bytes)
    (h5 : (c.maxLocals == mx && c.exceptionTable.isEmpty && decide (c.maxStack ≤ mostOperands) && decide (meth.sig.returnType = rt) && !meth.locks && decide (parseMethodDescriptor y.desc = some meth.sig)) = true) : (Jvm.Cond.code y bytes mx rt).before a s = true := by
  simp only [Bool.and_eq_true, beq_iff_eq, Bool.not_eq_true', decide_eq_true_eq] at h5
  obtain ⟨⟨⟨⟨⟨g1, g2⟩, g3⟩, g4⟩, g5⟩, g6⟩ := h5
  simp [Cond.before, Cond.holds, Cond.value, h1, h2, h3, h4, g1, g2, g3, g4, g5, g6]
def isCode : Jvm.Cond → Bool
  | .code _ _ _ _ => true
  | _ => false
theorem all_split {L : List Jvm.Cond} {P : Jvm.Cond → Bool} (h1 : L.all (fun c => isCode c || P c) = true) (h2 : ∀ c ∈ L.filter isCode, P c = true) : L.all P = true := by
  refine List.all_eq_true.mpr fun c hc => ?_
  have h := List.all_eq_true.mp h1 c hc
  rcases Bool.eq_false_or_eq_true (isCode c) with hi | hi
  · exact h2 c (List.mem_filter.mpr ⟨hc, hi⟩)
  · simpa [hi] using h
set_option maxRecDepth 65536 in
theorem w_c0 : (Jvm.Cond.code x code maxLocals ret).before args0 about1 = true := code_word (m := ⟨1, 2⟩) (meth := k1m2) (c := k1c2) (by decide +kernel) rfl rfl rfl (by decide +kernel)
set_option maxRecDepth 65536 in
theorem w_c1 : (Jvm.Cond.code ({ cls := "com/example/bindery/bindery/core/KindMayBeCreatedUnderPinLaw", name := "kindOf", desc := "(I)Lcom/example/bindery/bindery/core/ResourceName$Kind;" } : Jvm.MethodName) method_2_code (1 : Nat) (Option.some (Jvm.ClassFile.FieldType.object "com/example/bindery/bindery/core/ResourceName$Kind"))).before args0 about1 = true := code_word (m := ⟨1, 1⟩) (meth := k1m1) (c := k1c1) (by decide +kernel) rfl rfl rfl (by decide +kernel)
set_option maxRecDepth 65536 in
theorem w_c2 : (Jvm.Cond.code ({ cls := "com/example/bindery/bindery/core/ResourceName$Kind", name := "mayBeCreatedUnder", desc := "(Lcom/example/bindery/bindery/core/ResourceName$Kind;)Z" } : Jvm.MethodName) prog_13_method_4_code (2 : Nat) (Option.some Jvm.ClassFile.FieldType.boolean)).before args0 about1 = true := code_word (m := ⟨6, 0⟩) (meth := k6m0) (c := k6c0) (by decide +kernel) rfl rfl rfl (by decide +kernel)
def codes1 : List Jvm.Cond := [Jvm.Cond.code x code maxLocals ret, Jvm.Cond.code ({ cls := "com/example/bindery/bindery/core/KindMayBeCreatedUnderPinLaw", name := "kindOf", desc := "(I)Lcom/example/bindery/bindery/core/ResourceName$Kind;" } : Jvm.MethodName) method_2_code (1 : Nat) (Option.some (Jvm.ClassFile.FieldType.object "com/example/bindery/bindery/core/ResourceName$Kind")), Jvm.Cond.code ({ cls := "com/example/bindery/bindery/core/ResourceName$Kind", name := "mayBeCreatedUnder", desc := "(Lcom/example/bindery/bindery/core/ResourceName$Kind;)Z" } : Jvm.MethodName) prog_13_method_4_code (2 : Nat) (Option.some Jvm.ClassFile.FieldType.boolean)]
set_option maxRecDepth 65536 in
theorem codes_eq : words1.filter isCode = codes1 := rfl
theorem w_codes : ∀ c ∈ words1.filter isCode, c.before args0 about1 = true := by
  rw [codes_eq]
  intro c hc
  simp only [codes1, List.mem_cons, List.not_mem_nil, or_false] at hc
  rcases hc with rfl | rfl | rfl
  · exact w_c0
  · exact w_c1
  · exact w_c2
set_option maxRecDepth 65536 in
theorem w_t1 : words1.all (fun c => isCode c || c.before args0 about1) = true := by decide +kernel
theorem w_tables : (allAtoms (Jvm.Cond.code x code maxLocals ret :: tables_1)).before args0 about1 = true := by
  rw [allAtoms_all]
  show words1.all (fun c => c.before args0 about1) = true
  refine all_split ?_ w_codes
  rw [w_t1]
set_option maxRecDepth 65536 in
theorem w_case : (Jvm.Cond.and given_1 narrow_1).before args0 about1 = true := by decide +kernel
theorem w_applies : (headSpec (Jvm.Cond.code x code maxLocals ret :: tables_1) room_1).applies x e0.platform about1 = true :=
  (Spec.applies_iff w_frames).mpr ⟨w_running, w_runnable, w_alone, w_named, w_hears, w_ripe, w_room, w_tables⟩
theorem atStart : AtStart classFile x code maxLocals ret World_1 tables_1 room_1 Calls_1 rest_1 Pre_1 launch0 p0 e0 about1 theMethod args0 below0 :=
  ⟨lists_1, trivial, launch0.admits_env _ _ _, launch0.least_env, fairChoices_fair.cas, fairChoices_fair.clock, w_frames, w_args, w_heap, w_applies, trivial, trivial, w_case⟩
end start1
theorem witness_1 : WitnessClaimed_1 := ⟨start1.p0, start1.e0, start1.about1, start1.theMethod, start1.args0, start1.below0, start1.atStart⟩
end Jvm.Pilot.@@N@@
