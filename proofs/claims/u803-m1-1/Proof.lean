import JvmDerived
import JvmDerived.Pilot.@@N@@Statement
import JvmDerived.Pilot.@@N@@Code
set_option linter.unusedVariables false
set_option linter.unusedSimpArgs false
@@BLOCK:NumsL.lean.txt@@
namespace Jvm.Pilot.@@N@@
open Jvm Jvm.ClassFile Sem Op Lib Jvm.Free Jvm.Stand Jvm.LawKit Jvm.RoadKit Bundle Jvm.Pilot.@@N@@.Jvm.D
/-! the run comes from here to an end at which Q holds -/
def own_Comes (p : Program) (e : Env) (below : List Frame) (Q : Outcome → State → Prop) (T : State) (f : JFrame) : Prop :=
  ∃ s₂ o, Steps p.tables e below (T.setTop f) s₂ ∧ s₂.status = .running ∧ Ended s₂ below o ∧ Q o s₂
theorem own_lift {p : Program} {e : Env} {below : List Frame} {Q : Outcome → State → Prop} {T T' : State} {f f' : JFrame} (st : ∀ t, Steps p.tables e below (T'.setTop f') t → Steps p.tables e below (T.setTop f) t) (h : own_Comes p e below Q T' f') : own_Comes p e below Q T f := by
  obtain ⟨s₂, o, a, b⟩ := h
  exact ⟨s₂, o, st _ a, b⟩
theorem own_start {p : Program} {e : Env} {below : List Frame} {Q : Outcome → State → Prop} {T : State} {g g' : JFrame} (q : g = g') (h : own_Comes p e below Q T g') : ∃ s₂ o, Steps p.tables e below (T.setTop g) s₂ ∧ s₂.status = .running ∧ Ended s₂ below o ∧ Q o s₂ := by
  subst q; exact h
/-! what a body that writes and makes nothing leaves -/
def own_Q (val : Value) (h0 : Heap) (v : Option Value) (h : Heap) (L : List Loc) : Prop := v = some val ∧ L = [] ∧ h = h0
def own_End (val : Value) (h0 : Heap) (s : State) (R : Room) (o : Outcome) (U' : State) : Prop := ∃ v L, o = .returned v ∧ own_Q val h0 v U'.heap L ∧ FrameEnd s o U' L R.cells R.slots
section OwnRet
variable {p : Program} {l : Launch} {e : Env} {R : Room} {s : State} {m : MethodId} {args : Array Value} {below : List Frame} {meth : Method} {c : Code} {T : State}
theorem own_ret (X : Stand p l e R s m args below meth c T [] 0 0) (hx : p.tables.exec = Jvm.exec) (hlk : meth.locks = false) {pc : Nat} {Ls : Array Slot} {w : Value} {t : FieldType} {i : Instr} {rest : List Value} (hret : meth.sig.returnType = some t) (hn : narrow t w = w)
    (hi : (i = .ireturn ∧ (t = .int ∨ t = .boolean ∨ t = .byte ∨ t = .char ∨ t = .short) ∧ ∃ z, w = .int z) ∨ (i = .lreturn ∧ t = .long ∧ ∃ z, w = .long z) ∨ (i = .dreturn ∧ t = .double ∧ ∃ z, w = .double z) ∨ (i = .freturn ∧ t = .float ∧ ∃ z, w = .float z) ∨ (i = .areturn ∧ t.isReference = true ∧ w.isRef = true))
    (hd : decode c.code pc = .ok (i, 1)) {h0 : Heap} (eT : T.heap = h0) {val : Value} (hval : val = w) : own_Comes p e below (own_End val h0 s R) T (mkF m pc Ls (w :: rest)) := by
  subst hval
  obtain ⟨fs, hr, hrun, hended, hW, hsame⟩ := X.leave (v := some val) (fun h => by rw [hret] at h; cases h) hlk
  exact ⟨_, _, retOut X hx hret hn hi hd hr, hrun, hended, _, _, rfl, ⟨rfl, rfl, eT⟩, ⟨_, rfl⟩, hW, hsame.mono (Nat.zero_le _) (Nat.zero_le _)⟩
theorem own_retZ (X : Stand p l e R s m args below meth c T [] 0 0) (hx : p.tables.exec = Jvm.exec) (hlk : meth.locks = false) {pc : Nat} {Ls : Array Slot} {z : Int32} {rest : List Value} (hret : meth.sig.returnType = some .boolean) (hd : decode c.code pc = .ok (.ireturn, 1)) {h0 : Heap} (eT : T.heap = h0) (hz : z &&& 1 = z) {val : Value} (hval : val = .int z) : own_Comes p e below (own_End val h0 s R) T (mkF m pc Ls (.int z :: rest)) :=
  own_ret X hx hlk hret (by show Value.int (z &&& 1) = .int z; rw [hz]) (Or.inl ⟨rfl, by simp, z, rfl⟩) hd eT hval
theorem own_retI (X : Stand p l e R s m args below meth c T [] 0 0) (hx : p.tables.exec = Jvm.exec) (hlk : meth.locks = false) {pc : Nat} {Ls : Array Slot} {z : Int32} {rest : List Value} (hret : meth.sig.returnType = some .int) (hd : decode c.code pc = .ok (.ireturn, 1)) {h0 : Heap} (eT : T.heap = h0) {val : Value} (hval : val = .int z) : own_Comes p e below (own_End val h0 s R) T (mkF m pc Ls (.int z :: rest)) :=
  own_ret X hx hlk hret rfl (Or.inl ⟨rfl, by simp, z, rfl⟩) hd eT hval
theorem own_retA (X : Stand p l e R s m args below meth c T [] 0 0) (hx : p.tables.exec = Jvm.exec) (hlk : meth.locks = false) {pc : Nat} {Ls : Array Slot} {w : Value} {C : String} {rest : List Value} (hret : meth.sig.returnType = some (.object C)) (hd : decode c.code pc = .ok (.areturn, 1)) {h0 : Heap} (eT : T.heap = h0) (hw : w.isRef = true) {val : Value} (hval : val = w) : own_Comes p e below (own_End val h0 s R) T (mkF m pc Ls (w :: rest)) :=
  own_ret X hx hlk hret rfl (Or.inr (Or.inr (Or.inr (Or.inr ⟨rfl, rfl, hw⟩)))) hd eT hval
end OwnRet
/-! what a case says of a field of an object, as a value -/
theorem own_fld {args : Array Value} {s : State} {t : Term} {C n d : String} {a : Addr} {k : Int32} (ev : t.eval args s none [] s = some (.ref a)) (h : (Jvm.Cond.eq (.field t C n d) (.int k)).value args s none s [] = some true) : s.fieldOf? a C n d = some (.int k) := by
  obtain ⟨x, y, hx, hy, -, hk⟩ := cmp_v (Or.inl h)
  have hy2 : some (Value.int k) = some y := (Term.int_eval k).symm.trans hy
  cases hy2
  obtain ⟨z, rfl⟩ : ∃ z, x = .int z := hk
  have q : (Jvm.Cond.eq (.field t C n d) (.int k)).value args s none s [] = some (decide (z = k)) := by simp [Cond.value, hx, hy]
  obtain rfl : z = k := gotT q h
  rw [fld_at ev] at hx; exact hx
theorem own_idx (x m : Int32) (hm : 0 < m.toInt) : ∃ j : Nat, (j : Int) < m.toInt ∧ (x &&& (2147483647 : Int32)) % m = Int32.ofNat j := by
  have e1 : (x &&& (2147483647 : Int32)).toInt = x.toInt % 2 ^ 31 := Jvm.Kit.i32_mask x 2147483647 (k := 31) (by decide) (by decide)
  have e2 : ((x &&& (2147483647 : Int32)) % m).toInt = (x &&& (2147483647 : Int32)).toInt % m.toInt := Jvm.Kit.i32_rem_nonneg (by omega)
  have h1 : 0 ≤ (x &&& (2147483647 : Int32)).toInt % m.toInt := Int.emod_nonneg _ (by omega)
  have h2 : (x &&& (2147483647 : Int32)).toInt % m.toInt < m.toInt := Int.emod_lt_of_pos _ hm
  have h3 := m.toInt_lt
  refine ⟨((x &&& (2147483647 : Int32)) % m).toInt.toNat, by omega, ?_⟩
  apply Int32.toInt_inj.mp
  have q' : (Int32.ofNat ((x &&& (2147483647 : Int32)) % m).toInt.toNat).toInt = (((x &&& (2147483647 : Int32)) % m).toInt.toNat : Int) := len_toInt (by omega)
  omega
def own_pick (k : Int32) (c0 c1 c2 c3 c4 c5 c6 c7 c8 : Addr) : Addr := if k = 0 then c0 else if k = 1 then c1 else if k = 2 then c2 else if k = 3 then c3 else if k = 4 then c4 else if k = 5 then c5 else if k = 6 then c6 else if k = 7 then c7 else c8
theorem d1_0 : decode method_2_code 0 = .ok (.iload_n 0, 1) := by decide +kernel
theorem d1_1 : decode method_2_code 1 = .ok (.ifCond .ne 7, 3) := by decide +kernel
theorem d1_4 : decode method_2_code 4 = .ok (.getstatic 7, 3) := by decide +kernel
theorem d1_7 : decode method_2_code 7 = .ok (.areturn, 1) := by decide +kernel
theorem d1_8 : decode method_2_code 8 = .ok (.iload_n 0, 1) := by decide +kernel
theorem d1_9 : decode method_2_code 9 = .ok (.iconst 1, 1) := by decide +kernel
theorem d1_10 : decode method_2_code 10 = .ok (.if_icmp .ne 7, 3) := by decide +kernel
theorem d1_13 : decode method_2_code 13 = .ok (.getstatic 13, 3) := by decide +kernel
theorem d1_16 : decode method_2_code 16 = .ok (.areturn, 1) := by decide +kernel
theorem d1_17 : decode method_2_code 17 = .ok (.iload_n 0, 1) := by decide +kernel
theorem d1_18 : decode method_2_code 18 = .ok (.iconst 2, 1) := by decide +kernel
theorem d1_19 : decode method_2_code 19 = .ok (.if_icmp .ne 7, 3) := by decide +kernel
theorem d1_22 : decode method_2_code 22 = .ok (.getstatic 16, 3) := by decide +kernel
theorem d1_25 : decode method_2_code 25 = .ok (.areturn, 1) := by decide +kernel
theorem d1_26 : decode method_2_code 26 = .ok (.iload_n 0, 1) := by decide +kernel
theorem d1_27 : decode method_2_code 27 = .ok (.iconst 3, 1) := by decide +kernel
theorem d1_28 : decode method_2_code 28 = .ok (.if_icmp .ne 7, 3) := by decide +kernel
theorem d1_31 : decode method_2_code 31 = .ok (.getstatic 19, 3) := by decide +kernel
theorem d1_34 : decode method_2_code 34 = .ok (.areturn, 1) := by decide +kernel
theorem d1_35 : decode method_2_code 35 = .ok (.iload_n 0, 1) := by decide +kernel
theorem d1_36 : decode method_2_code 36 = .ok (.iconst 4, 1) := by decide +kernel
theorem d1_37 : decode method_2_code 37 = .ok (.if_icmp .ne 7, 3) := by decide +kernel
theorem d1_40 : decode method_2_code 40 = .ok (.getstatic 22, 3) := by decide +kernel
theorem d1_43 : decode method_2_code 43 = .ok (.areturn, 1) := by decide +kernel
theorem d1_44 : decode method_2_code 44 = .ok (.iload_n 0, 1) := by decide +kernel
theorem d1_45 : decode method_2_code 45 = .ok (.iconst 5, 1) := by decide +kernel
theorem d1_46 : decode method_2_code 46 = .ok (.if_icmp .ne 7, 3) := by decide +kernel
theorem d1_49 : decode method_2_code 49 = .ok (.getstatic 25, 3) := by decide +kernel
theorem d1_52 : decode method_2_code 52 = .ok (.areturn, 1) := by decide +kernel
theorem d1_53 : decode method_2_code 53 = .ok (.iload_n 0, 1) := by decide +kernel
theorem d1_54 : decode method_2_code 54 = .ok (.bipush 6, 2) := by decide +kernel
theorem d1_56 : decode method_2_code 56 = .ok (.if_icmp .ne 7, 3) := by decide +kernel
theorem d1_59 : decode method_2_code 59 = .ok (.getstatic 28, 3) := by decide +kernel
theorem d1_62 : decode method_2_code 62 = .ok (.areturn, 1) := by decide +kernel
theorem d1_63 : decode method_2_code 63 = .ok (.iload_n 0, 1) := by decide +kernel
theorem d1_64 : decode method_2_code 64 = .ok (.bipush 7, 2) := by decide +kernel
theorem d1_66 : decode method_2_code 66 = .ok (.if_icmp .ne 7, 3) := by decide +kernel
theorem d1_69 : decode method_2_code 69 = .ok (.getstatic 31, 3) := by decide +kernel
theorem d1_72 : decode method_2_code 72 = .ok (.areturn, 1) := by decide +kernel
theorem d1_73 : decode method_2_code 73 = .ok (.getstatic 34, 3) := by decide +kernel
theorem d1_76 : decode method_2_code 76 = .ok (.areturn, 1) := by decide +kernel
theorem pn_1 : plainName "com/example/accrual/accrual/CompoundingIsPeriodicPinLaw" = true := by first | (simp [plainName, overriddenIn]; done) | decide +kernel
theorem pd_1 : parseMethodDescriptor "(I)Lcom/example/accrual/accrual/Compounding;" = some ⟨[.int], some (.object "com/example/accrual/accrual/Compounding")⟩ := by decide +kernel
theorem ef_1 (m : MethodId) (x0 : Int32)  : entryFrame m #[(.int x0)] 1 = mkF m 0 #[.val (.int x0)] [] := by first | (simp [entryFrame, mkF, argsToLocals, Value.category]; done) | rfl
set_option maxRecDepth 65536 in
set_option maxHeartbeats 40000000 in
theorem rm1 (l : Launch) (Z : State) (a0 : Array Value) (hw : ∀ d ∈ tables_1, d.before a0 Z = true) (ws : List Jvm.Cond) (k : Int32) (c0 c1 c2 c3 c4 c5 c6 c7 c8 : Addr) (val : Addr) (h0 : Heap) (S_SIMPLE : Sta Z h0 "com/example/accrual/accrual/Compounding" "SIMPLE" "Lcom/example/accrual/accrual/Compounding;" (.ref c0)) (S_ANNUALLY : Sta Z h0 "com/example/accrual/accrual/Compounding" "ANNUALLY" "Lcom/example/accrual/accrual/Compounding;" (.ref c1)) (S_SEMI_ANNUALLY : Sta Z h0 "com/example/accrual/accrual/Compounding" "SEMI_ANNUALLY" "Lcom/example/accrual/accrual/Compounding;" (.ref c2)) (S_QUARTERLY : Sta Z h0 "com/example/accrual/accrual/Compounding" "QUARTERLY" "Lcom/example/accrual/accrual/Compounding;" (.ref c3)) (S_MONTHLY : Sta Z h0 "com/example/accrual/accrual/Compounding" "MONTHLY" "Lcom/example/accrual/accrual/Compounding;" (.ref c4)) (S_FORTNIGHTLY : Sta Z h0 "com/example/accrual/accrual/Compounding" "FORTNIGHTLY" "Lcom/example/accrual/accrual/Compounding;" (.ref c5)) (S_WEEKLY : Sta Z h0 "com/example/accrual/accrual/Compounding" "WEEKLY" "Lcom/example/accrual/accrual/Compounding;" (.ref c6)) (S_DAILY : Sta Z h0 "com/example/accrual/accrual/Compounding" "DAILY" "Lcom/example/accrual/accrual/Compounding;" (.ref c7)) (S_CONTINUOUSLY : Sta Z h0 "com/example/accrual/accrual/Compounding" "CONTINUOUSLY" "Lcom/example/accrual/accrual/Compounding;" (.ref c8)) (hv : val = own_pick k c0 c1 c2 c3 c4 c5 c6 c7 c8) :
    MetFree l (⟨"com/example/accrual/accrual/CompoundingIsPeriodicPinLaw", "pick", "(I)Lcom/example/accrual/accrual/Compounding;"⟩ : MethodName) (head1 (Jvm.Cond.code (⟨"com/example/accrual/accrual/CompoundingIsPeriodicPinLaw", "pick", "(I)Lcom/example/accrual/accrual/Compounding;"⟩ : MethodName) method_2_code 1 (some (.object "com/example/accrual/accrual/Compounding")) :: ws) ({ frames := 0, cells := 0, slots := 0, locals := 0 } : Room)) (fun a U => a = #[(.int k)] ∧ Z.Warmed39 U.vm ∧ U.heap = h0) (fun _ _ _ _ _ => True) (fun _ U o U' => ∃ v L, o = .returned v ∧ own_Q (.ref val) h0 v U'.heap L ∧ FrameEnd U o U' L ({ frames := 0, cells := 0, slots := 0, locals := 0 } : Room).cells ({ frames := 0, cells := 0, slots := 0, locals := 0 } : Room).slots) := by
  refine MetFree.of_bodySF (plainFor_of_name pn_1) hisR ?_
  intro p e s m args below meth c s₁ Bd hml0 hP hK
  obtain ⟨rfl, hZ, hh⟩ := hP
  have hx := Bd.exec
  have hby := Bd.bytes
  have hml : c.maxLocals = 1 := hml0
  have hown : s.vm.findClass "com/example/accrual/accrual/CompoundingIsPeriodicPinLaw" = some m.cls := findClass_of_methodNamed Bd.named
  have hlk : meth.locks = false := BodyLoose.notSynchronized Bd
  have X0 : Stand p l e ({ frames := 0, cells := 0, slots := 0, locals := 0 } : Room) s m #[(.int k)] below meth c s₁ [] 0 0 := Stand.of_body Bd
  have e0 : s₁.heap = h0 := by rw [← hh, Bd.state]; rfl
  refine own_start (Q := own_End (.ref val) h0 s ({ frames := 0, cells := 0, slots := 0, locals := 0 } : Room)) (ef_1 m k) ?_
  refine own_lift (T' := s₁) (f' := (mkF m 1 #[.val (.int k)] [(.int k)])) (fun _ k => XS.iloadN X0.here hx rfl (hb hby d1_0) rfl k) ?_
  by_cases k0 : k = (0 : Int32)
  · refine own_lift (T' := s₁) (f' := (mkF m 4 #[.val (.int k)] [])) (fun _ k => XS.ifNo X0.here hx rfl (hb hby d1_1) rfl ((if0 _ _).trans (teq k0).2) k) ?_
    obtain ⟨T1, X1, e1, st1⟩ := getS2 X0 hx hZ hown (host := "") (Or.inl (hw _ (List.mem_of_getElem? (i := 5) rfl))) Via.refl e0 S_SIMPLE (g := (mkF m 4 #[.val (.int k)] [])) rfl (hb hby d1_4)
    refine own_lift (T' := T1) (f' := (mkF m 7 #[.val (.int k)] [(.ref c0)])) (st1) ?_
    exact own_retA X1 hx hlk Bd.returns (hb hby d1_7) e1 rfl (by simp [hv, own_pick, k0])
  · refine own_lift (T' := s₁) (f' := (mkF m 8 #[.val (.int k)] [])) (fun _ k => XS.ifYes X0.here hx rfl (pc0 := 1) (pc' := 8) rfl (hb hby d1_1) rfl ((if0 _ _).trans (feq k0).2) (by decide) (by decide) k) ?_
    refine own_lift (T' := s₁) (f' := (mkF m 9 #[.val (.int k)] [(.int k)])) (fun _ k => XS.iloadN X0.here hx rfl (hb hby d1_8) rfl k) ?_
    refine own_lift (T' := s₁) (f' := (mkF m 10 #[.val (.int k)] [(.int (1 : Int32)), (.int k)])) (fun _ k => XS.iconst X0.here hx rfl (hb hby d1_9) k) ?_
    by_cases k1 : k = (1 : Int32)
    · refine own_lift (T' := s₁) (f' := (mkF m 13 #[.val (.int k)] [])) (fun _ k => XS.icmpNo X0.here hx rfl (hb hby d1_10) rfl (teq k1).2 k) ?_
      obtain ⟨T2, X2, e2, st2⟩ := getS2 X0 hx hZ hown (host := "") (Or.inl (hw _ (List.mem_of_getElem? (i := 19) rfl))) Via.refl e0 S_ANNUALLY (g := (mkF m 13 #[.val (.int k)] [])) rfl (hb hby d1_13)
      refine own_lift (T' := T2) (f' := (mkF m 16 #[.val (.int k)] [(.ref c1)])) (st2) ?_
      exact own_retA X2 hx hlk Bd.returns (hb hby d1_16) e2 rfl (by simp [hv, own_pick, k1])
    · refine own_lift (T' := s₁) (f' := (mkF m 17 #[.val (.int k)] [])) (fun _ k => XS.icmpYes X0.here hx rfl (pc0 := 10) (pc' := 17) rfl (hb hby d1_10) rfl (feq k1).2 (by decide) (by decide) k) ?_
      refine own_lift (T' := s₁) (f' := (mkF m 18 #[.val (.int k)] [(.int k)])) (fun _ k => XS.iloadN X0.here hx rfl (hb hby d1_17) rfl k) ?_
      refine own_lift (T' := s₁) (f' := (mkF m 19 #[.val (.int k)] [(.int (2 : Int32)), (.int k)])) (fun _ k => XS.iconst X0.here hx rfl (hb hby d1_18) k) ?_
      by_cases k2 : k = (2 : Int32)
      · refine own_lift (T' := s₁) (f' := (mkF m 22 #[.val (.int k)] [])) (fun _ k => XS.icmpNo X0.here hx rfl (hb hby d1_19) rfl (teq k2).2 k) ?_
        obtain ⟨T3, X3, e3, st3⟩ := getS2 X0 hx hZ hown (host := "") (Or.inl (hw _ (List.mem_of_getElem? (i := 17) rfl))) Via.refl e0 S_SEMI_ANNUALLY (g := (mkF m 22 #[.val (.int k)] [])) rfl (hb hby d1_22)
        refine own_lift (T' := T3) (f' := (mkF m 25 #[.val (.int k)] [(.ref c2)])) (st3) ?_
        exact own_retA X3 hx hlk Bd.returns (hb hby d1_25) e3 rfl (by simp [hv, own_pick, k2])
      · refine own_lift (T' := s₁) (f' := (mkF m 26 #[.val (.int k)] [])) (fun _ k => XS.icmpYes X0.here hx rfl (pc0 := 19) (pc' := 26) rfl (hb hby d1_19) rfl (feq k2).2 (by decide) (by decide) k) ?_
        refine own_lift (T' := s₁) (f' := (mkF m 27 #[.val (.int k)] [(.int k)])) (fun _ k => XS.iloadN X0.here hx rfl (hb hby d1_26) rfl k) ?_
        refine own_lift (T' := s₁) (f' := (mkF m 28 #[.val (.int k)] [(.int (3 : Int32)), (.int k)])) (fun _ k => XS.iconst X0.here hx rfl (hb hby d1_27) k) ?_
        by_cases k3 : k = (3 : Int32)
        · refine own_lift (T' := s₁) (f' := (mkF m 31 #[.val (.int k)] [])) (fun _ k => XS.icmpNo X0.here hx rfl (hb hby d1_28) rfl (teq k3).2 k) ?_
          obtain ⟨T4, X4, e4, st4⟩ := getS2 X0 hx hZ hown (host := "") (Or.inl (hw _ (List.mem_of_getElem? (i := 15) rfl))) Via.refl e0 S_QUARTERLY (g := (mkF m 31 #[.val (.int k)] [])) rfl (hb hby d1_31)
          refine own_lift (T' := T4) (f' := (mkF m 34 #[.val (.int k)] [(.ref c3)])) (st4) ?_
          exact own_retA X4 hx hlk Bd.returns (hb hby d1_34) e4 rfl (by simp [hv, own_pick, k3])
        · refine own_lift (T' := s₁) (f' := (mkF m 35 #[.val (.int k)] [])) (fun _ k => XS.icmpYes X0.here hx rfl (pc0 := 28) (pc' := 35) rfl (hb hby d1_28) rfl (feq k3).2 (by decide) (by decide) k) ?_
          refine own_lift (T' := s₁) (f' := (mkF m 36 #[.val (.int k)] [(.int k)])) (fun _ k => XS.iloadN X0.here hx rfl (hb hby d1_35) rfl k) ?_
          refine own_lift (T' := s₁) (f' := (mkF m 37 #[.val (.int k)] [(.int (4 : Int32)), (.int k)])) (fun _ k => XS.iconst X0.here hx rfl (hb hby d1_36) k) ?_
          by_cases k4 : k = (4 : Int32)
          · refine own_lift (T' := s₁) (f' := (mkF m 40 #[.val (.int k)] [])) (fun _ k => XS.icmpNo X0.here hx rfl (hb hby d1_37) rfl (teq k4).2 k) ?_
            obtain ⟨T5, X5, e5, st5⟩ := getS2 X0 hx hZ hown (host := "") (Or.inl (hw _ (List.mem_of_getElem? (i := 23) rfl))) Via.refl e0 S_MONTHLY (g := (mkF m 40 #[.val (.int k)] [])) rfl (hb hby d1_40)
            refine own_lift (T' := T5) (f' := (mkF m 43 #[.val (.int k)] [(.ref c4)])) (st5) ?_
            exact own_retA X5 hx hlk Bd.returns (hb hby d1_43) e5 rfl (by simp [hv, own_pick, k4])
          · refine own_lift (T' := s₁) (f' := (mkF m 44 #[.val (.int k)] [])) (fun _ k => XS.icmpYes X0.here hx rfl (pc0 := 37) (pc' := 44) rfl (hb hby d1_37) rfl (feq k4).2 (by decide) (by decide) k) ?_
            refine own_lift (T' := s₁) (f' := (mkF m 45 #[.val (.int k)] [(.int k)])) (fun _ k => XS.iloadN X0.here hx rfl (hb hby d1_44) rfl k) ?_
            refine own_lift (T' := s₁) (f' := (mkF m 46 #[.val (.int k)] [(.int (5 : Int32)), (.int k)])) (fun _ k => XS.iconst X0.here hx rfl (hb hby d1_45) k) ?_
            by_cases k5 : k = (5 : Int32)
            · refine own_lift (T' := s₁) (f' := (mkF m 49 #[.val (.int k)] [])) (fun _ k => XS.icmpNo X0.here hx rfl (hb hby d1_46) rfl (teq k5).2 k) ?_
              obtain ⟨T6, X6, e6, st6⟩ := getS2 X0 hx hZ hown (host := "") (Or.inl (hw _ (List.mem_of_getElem? (i := 29) rfl))) Via.refl e0 S_FORTNIGHTLY (g := (mkF m 49 #[.val (.int k)] [])) rfl (hb hby d1_49)
              refine own_lift (T' := T6) (f' := (mkF m 52 #[.val (.int k)] [(.ref c5)])) (st6) ?_
              exact own_retA X6 hx hlk Bd.returns (hb hby d1_52) e6 rfl (by simp [hv, own_pick, k5])
            · refine own_lift (T' := s₁) (f' := (mkF m 53 #[.val (.int k)] [])) (fun _ k => XS.icmpYes X0.here hx rfl (pc0 := 46) (pc' := 53) rfl (hb hby d1_46) rfl (feq k5).2 (by decide) (by decide) k) ?_
              refine own_lift (T' := s₁) (f' := (mkF m 54 #[.val (.int k)] [(.int k)])) (fun _ k => XS.iloadN X0.here hx rfl (hb hby d1_53) rfl k) ?_
              refine own_lift (T' := s₁) (f' := (mkF m 56 #[.val (.int k)] [(.int (6 : Int32)), (.int k)])) (fun _ k => XS.bipush X0.here hx rfl (hb hby d1_54) k) ?_
              by_cases k6 : k = (6 : Int32)
              · refine own_lift (T' := s₁) (f' := (mkF m 59 #[.val (.int k)] [])) (fun _ k => XS.icmpNo X0.here hx rfl (hb hby d1_56) rfl (teq k6).2 k) ?_
                obtain ⟨T7, X7, e7, st7⟩ := getS2 X0 hx hZ hown (host := "") (Or.inl (hw _ (List.mem_of_getElem? (i := 27) rfl))) Via.refl e0 S_WEEKLY (g := (mkF m 59 #[.val (.int k)] [])) rfl (hb hby d1_59)
                refine own_lift (T' := T7) (f' := (mkF m 62 #[.val (.int k)] [(.ref c6)])) (st7) ?_
                exact own_retA X7 hx hlk Bd.returns (hb hby d1_62) e7 rfl (by simp [hv, own_pick, k6])
              · refine own_lift (T' := s₁) (f' := (mkF m 63 #[.val (.int k)] [])) (fun _ k => XS.icmpYes X0.here hx rfl (pc0 := 56) (pc' := 63) rfl (hb hby d1_56) rfl (feq k6).2 (by decide) (by decide) k) ?_
                refine own_lift (T' := s₁) (f' := (mkF m 64 #[.val (.int k)] [(.int k)])) (fun _ k => XS.iloadN X0.here hx rfl (hb hby d1_63) rfl k) ?_
                refine own_lift (T' := s₁) (f' := (mkF m 66 #[.val (.int k)] [(.int (7 : Int32)), (.int k)])) (fun _ k => XS.bipush X0.here hx rfl (hb hby d1_64) k) ?_
                by_cases k7 : k = (7 : Int32)
                · refine own_lift (T' := s₁) (f' := (mkF m 69 #[.val (.int k)] [])) (fun _ k => XS.icmpNo X0.here hx rfl (hb hby d1_66) rfl (teq k7).2 k) ?_
                  obtain ⟨T8, X8, e8, st8⟩ := getS2 X0 hx hZ hown (host := "") (Or.inl (hw _ (List.mem_of_getElem? (i := 21) rfl))) Via.refl e0 S_DAILY (g := (mkF m 69 #[.val (.int k)] [])) rfl (hb hby d1_69)
                  refine own_lift (T' := T8) (f' := (mkF m 72 #[.val (.int k)] [(.ref c7)])) (st8) ?_
                  exact own_retA X8 hx hlk Bd.returns (hb hby d1_72) e8 rfl (by simp [hv, own_pick, k7])
                · refine own_lift (T' := s₁) (f' := (mkF m 73 #[.val (.int k)] [])) (fun _ k => XS.icmpYes X0.here hx rfl (pc0 := 66) (pc' := 73) rfl (hb hby d1_66) rfl (feq k7).2 (by decide) (by decide) k) ?_
                  obtain ⟨T9, X9, e9, st9⟩ := getS2 X0 hx hZ hown (host := "") (Or.inl (hw _ (List.mem_of_getElem? (i := 25) rfl))) Via.refl e0 S_CONTINUOUSLY (g := (mkF m 73 #[.val (.int k)] [])) rfl (hb hby d1_73)
                  refine own_lift (T' := T9) (f' := (mkF m 76 #[.val (.int k)] [(.ref c8)])) (st9) ?_
                  exact own_retA X9 hx hlk Bd.returns (hb hby d1_76) e9 rfl (by simp [hv, own_pick, k0, k1, k2, k3, k4, k5, k6, k7])
theorem d2_0 : decode prog_3_method_5_code 0 = .ok (.aload_n 0, 1) := by decide +kernel
theorem d2_1 : decode prog_3_method_5_code 1 = .ok (.getfield 50, 3) := by decide +kernel
theorem d2_4 : decode prog_3_method_5_code 4 = .ok (.ifCond .le 7, 3) := by decide +kernel
theorem d2_7 : decode prog_3_method_5_code 7 = .ok (.iconst 1, 1) := by decide +kernel
theorem d2_8 : decode prog_3_method_5_code 8 = .ok (.goto 4, 3) := by decide +kernel
theorem d2_11 : decode prog_3_method_5_code 11 = .ok (.iconst 0, 1) := by decide +kernel
theorem d2_12 : decode prog_3_method_5_code 12 = .ok (.ireturn, 1) := by decide +kernel
theorem pn_2 : plainName "com/example/accrual/accrual/Compounding" = true := by first | (simp [plainName, overriddenIn]; done) | decide +kernel
theorem pd_2 : parseMethodDescriptor "()Z" = some ⟨[], some .boolean⟩ := by decide +kernel
theorem ef_2 (m : MethodId) (x0 : Addr)  : entryFrame m #[(.ref x0)] 1 = mkF m 0 #[.val (.ref x0)] [] := by first | (simp [entryFrame, mkF, argsToLocals, Value.category]; done) | rfl
set_option maxRecDepth 65536 in
set_option maxHeartbeats 40000000 in
theorem rm2 (l : Launch) (Z : State) (a0 : Array Value) (hw : ∀ d ∈ tables_1, d.before a0 Z = true) (ws : List Jvm.Cond) (a1 : Addr) (n val : Int32) (h0 : Heap) (F_n : Fld Z h0 a1 "com/example/accrual/accrual/Compounding" "periodsPerYear" "I" (.int n)) (hv : val = if 0 < n then 1 else 0) :
    MetFree l (⟨"com/example/accrual/accrual/Compounding", "isPeriodic", "()Z"⟩ : MethodName) (head1 (Jvm.Cond.code (⟨"com/example/accrual/accrual/Compounding", "isPeriodic", "()Z"⟩ : MethodName) prog_3_method_5_code 1 (some .boolean) :: ws) ({ frames := 0, cells := 0, slots := 0, locals := 0 } : Room)) (fun a U => a = #[(.ref a1)] ∧ Z.Warmed39 U.vm ∧ U.heap = h0) (fun _ _ _ _ _ => True) (fun _ U o U' => ∃ v L, o = .returned v ∧ own_Q (.int val) h0 v U'.heap L ∧ FrameEnd U o U' L ({ frames := 0, cells := 0, slots := 0, locals := 0 } : Room).cells ({ frames := 0, cells := 0, slots := 0, locals := 0 } : Room).slots) := by
  refine MetFree.of_bodySF (plainFor_of_name pn_2) hisR ?_
  intro p e s m args below meth c s₁ Bd hml0 hP hK
  obtain ⟨rfl, hZ, hh⟩ := hP
  have hx := Bd.exec
  have hby := Bd.bytes
  have hml : c.maxLocals = 1 := hml0
  have hown : s.vm.findClass "com/example/accrual/accrual/Compounding" = some m.cls := findClass_of_methodNamed Bd.named
  have hlk : meth.locks = false := BodyLoose.notSynchronized Bd
  have X0 : Stand p l e ({ frames := 0, cells := 0, slots := 0, locals := 0 } : Room) s m #[(.ref a1)] below meth c s₁ [] 0 0 := Stand.of_body Bd
  have e0 : s₁.heap = h0 := by rw [← hh, Bd.state]; rfl
  refine own_start (Q := own_End (.int val) h0 s ({ frames := 0, cells := 0, slots := 0, locals := 0 } : Room)) (ef_2 m a1) ?_
  refine own_lift (T' := s₁) (f' := (mkF m 1 #[.val (.ref a1)] [(.ref a1)])) (fun _ k => XS.aloadN X0.here hx rfl (hb hby d2_0) rfl rfl k) ?_
  obtain ⟨T10, X10, e10, st10⟩ := getF X0 hx hZ hown (host := "") (Or.inl (hw _ (List.mem_of_getElem? (i := 13) rfl))) Via.refl e0 F_n (g := (mkF m 1 #[.val (.ref a1)] [(.ref a1)])) rfl rfl (hb hby d2_1)
  refine own_lift (T' := T10) (f' := (mkF m 4 #[.val (.ref a1)] [(.int n)])) (st10) ?_
  by_cases h1 : (0 : Int32) < n
  · refine own_lift (T' := T10) (f' := (mkF m 7 #[.val (.ref a1)] [])) (fun _ k => XS.ifNo X10.here hx rfl (hb hby d2_4) rfl ((if0 _ _).trans (tlt h1).2.2.2) k) ?_
    refine own_lift (T' := T10) (f' := (mkF m 8 #[.val (.ref a1)] [(.int (1 : Int32))])) (fun _ k => XS.iconst X10.here hx rfl (hb hby d2_7) k) ?_
    refine own_lift (T' := T10) (f' := (mkF m 12 #[.val (.ref a1)] [(.int (1 : Int32))])) (fun _ k => XS.goto X10.here hx rfl (pc0 := 8) (pc' := 12) rfl (hb hby d2_8) (by decide) (by decide) k) ?_
    exact own_retZ X10 hx hlk Bd.returns (hb hby d2_12) e10 (by decide) (by simp [hv, h1])
  · refine own_lift (T' := T10) (f' := (mkF m 11 #[.val (.ref a1)] [])) (fun _ k => XS.ifYes X10.here hx rfl (pc0 := 4) (pc' := 11) rfl (hb hby d2_4) rfl ((if0 _ _).trans (flt h1).2.2.2) (by decide) (by decide) k) ?_
    refine own_lift (T' := T10) (f' := (mkF m 12 #[.val (.ref a1)] [(.int (0 : Int32))])) (fun _ k => XS.iconst X10.here hx rfl (hb hby d2_11) k) ?_
    exact own_retZ X10 hx hlk Bd.returns (hb hby d2_12) e10 (by decide) (by simp [hv, h1])
theorem pn_0 : plainName "com/example/accrual/accrual/CompoundingIsPeriodicPinLaw" = true := by first | (simp [plainName, overriddenIn]; done) | decide +kernel
theorem pd_0 : parseMethodDescriptor "(I)Z" = some ⟨[.int], some .boolean⟩ := by decide +kernel
theorem ef_0 (m : MethodId) (x0 : Int32)  : entryFrame m #[(.int x0)] maxLocals = mkF m 0 #[.val (.int x0), .unset, .unset, .unset] [] := by first | (simp [entryFrame, mkF, argsToLocals, Value.category, maxLocals]; done) | rfl
set_option maxRecDepth 65536 in
set_option maxHeartbeats 40000000 in
theorem rm0 (l : Launch) (Z : State) (a0 : Array Value) (hw : ∀ d ∈ tables_1, d.before a0 Z = true) (ws : List Jvm.Cond) (p1 : Int32) (c0 c1 c2 c3 c4 c5 c6 c7 c8 : Addr) (a1 : Addr) (n : Int32) (h0 : Heap) (S_SIMPLE : Sta Z h0 "com/example/accrual/accrual/Compounding" "SIMPLE" "Lcom/example/accrual/accrual/Compounding;" (.ref c0)) (S_ANNUALLY : Sta Z h0 "com/example/accrual/accrual/Compounding" "ANNUALLY" "Lcom/example/accrual/accrual/Compounding;" (.ref c1)) (S_SEMI_ANNUALLY : Sta Z h0 "com/example/accrual/accrual/Compounding" "SEMI_ANNUALLY" "Lcom/example/accrual/accrual/Compounding;" (.ref c2)) (S_QUARTERLY : Sta Z h0 "com/example/accrual/accrual/Compounding" "QUARTERLY" "Lcom/example/accrual/accrual/Compounding;" (.ref c3)) (S_MONTHLY : Sta Z h0 "com/example/accrual/accrual/Compounding" "MONTHLY" "Lcom/example/accrual/accrual/Compounding;" (.ref c4)) (S_FORTNIGHTLY : Sta Z h0 "com/example/accrual/accrual/Compounding" "FORTNIGHTLY" "Lcom/example/accrual/accrual/Compounding;" (.ref c5)) (S_WEEKLY : Sta Z h0 "com/example/accrual/accrual/Compounding" "WEEKLY" "Lcom/example/accrual/accrual/Compounding;" (.ref c6)) (S_DAILY : Sta Z h0 "com/example/accrual/accrual/Compounding" "DAILY" "Lcom/example/accrual/accrual/Compounding;" (.ref c7)) (S_CONTINUOUSLY : Sta Z h0 "com/example/accrual/accrual/Compounding" "CONTINUOUSLY" "Lcom/example/accrual/accrual/Compounding;" (.ref c8)) (hp : a1 = own_pick ((p1 &&& (2147483647 : Int32)) % (9 : Int32)) c0 c1 c2 c3 c4 c5 c6 c7 c8) (E_a : Exa Z h0 a1 "com/example/accrual/accrual/Compounding") (F_n : Fld Z h0 a1 "com/example/accrual/accrual/Compounding" "periodsPerYear" "I" (.int n)) (hn : 0 < n ↔ ¬ (((p1 &&& (2147483647 : Int32)) % (9 : Int32)) = 0 ∨ ((p1 &&& (2147483647 : Int32)) % (9 : Int32)) = 8)) :
    MetFree l x (head1 (Jvm.Cond.code x code maxLocals ret :: ws) room_1) (fun a U => a = #[(.int p1)] ∧ Z.Warmed39 U.vm ∧ U.heap = h0) (fun _ _ _ _ _ => True) (fun _ U o U' => ∃ v L, o = .returned v ∧ own_Q (.int 1) h0 v U'.heap L ∧ FrameEnd U o U' L room_1.cells room_1.slots) := by
  refine MetFree.of_bodySF (plainFor_of_name pn_0) hisR ?_
  intro p e s m args below meth c s₁ Bd hml0 hP hK
  obtain ⟨rfl, hZ, hh⟩ := hP
  have hx := Bd.exec
  have hby := Bd.bytes
  have hml : c.maxLocals = 4 := hml0
  have hown : s.vm.findClass "com/example/accrual/accrual/CompoundingIsPeriodicPinLaw" = some m.cls := findClass_of_methodNamed Bd.named
  have hlk : meth.locks = false := BodyLoose.notSynchronized Bd
  have X0 : Stand p l e room_1 s m #[(.int p1)] below meth c s₁ [] 0 0 := Stand.of_body Bd
  have e0 : s₁.heap = h0 := by rw [← hh, Bd.state]; rfl
  refine own_start (Q := own_End (.int 1) h0 s room_1) (ef_0 m p1) ?_
  refine own_lift (T' := s₁) (f' := (mkF m 1 #[.val (.int p1), .unset, .unset, .unset] [(.int p1)])) (fun _ k => XS.iloadN X0.here hx rfl (hb hby at_0) rfl k) ?_
  refine own_lift (T' := s₁) (f' := (mkF m 3 #[.val (.int p1), .unset, .unset, .unset] [(.int (2147483647 : Int32)), (.int p1)])) (X0.ldcInt hx hown (mvT hZ (hw _ (List.mem_of_getElem? (i := 0) rfl))) (g := (mkF m 1 #[.val (.int p1), .unset, .unset, .unset] [(.int p1)])) rfl (hb hby at_1)) ?_
  refine own_lift (T' := s₁) (f' := (mkF m 4 #[.val (.int p1), .unset, .unset, .unset] [(.int (p1 &&& (2147483647 : Int32)))])) (fun _ k => XS.iand X0.here hx rfl (hb hby at_3) rfl k) ?_
  refine own_lift (T' := s₁) (f' := (mkF m 6 #[.val (.int p1), .unset, .unset, .unset] [(.int (9 : Int32)), (.int (p1 &&& (2147483647 : Int32)))])) (fun _ k => XS.bipush X0.here hx rfl (hb hby at_4) k) ?_
  refine own_lift (T' := s₁) (f' := (mkF m 7 #[.val (.int p1), .unset, .unset, .unset] [(.int ((p1 &&& (2147483647 : Int32)) % (9 : Int32)))])) (fun _ k => iremM X0 hx rfl (hb hby at_6) rfl (by decide) k) ?_
  refine own_lift (T' := s₁) (f' := (mkF m 8 #[.val (.int p1), .val (.int ((p1 &&& (2147483647 : Int32)) % (9 : Int32))), .unset, .unset] [])) (fun _ k => XS.istoreN X0.here hx rfl (hb hby at_7) rfl (l' := #[.val (.int p1), .val (.int ((p1 &&& (2147483647 : Int32)) % (9 : Int32))), .unset, .unset]) rfl k) ?_
  refine own_lift (T' := s₁) (f' := (mkF m 9 #[.val (.int p1), .val (.int ((p1 &&& (2147483647 : Int32)) % (9 : Int32))), .unset, .unset] [(.int ((p1 &&& (2147483647 : Int32)) % (9 : Int32)))])) (fun _ k => XS.iloadN X0.here hx rfl (hb hby at_8) rfl k) ?_
  obtain ⟨_, _, ⟨T11, L11, k11, n11⟩, -, Y11, ⟨Lc11, hQ11, l11, y11, z11⟩, st11⟩ := Jvm.LawKit.callS X0 hx (y := (⟨"com/example/accrual/accrual/CompoundingIsPeriodicPinLaw", "pick", "(I)Lcom/example/accrual/accrual/Compounding;"⟩ : MethodName)) hown (mvT hZ (hw _ (List.mem_of_getElem? (i := 1) rfl))) (mvT hZ (hw _ (List.mem_of_getElem? (i := 2) rfl))) (mvT hZ (hw _ (List.mem_of_getElem? (i := 3) rfl))) (mvT hZ (hw _ (List.mem_of_getElem? (i := 4) rfl))) (by decide) (backOf (W := 0) (rm1 l Z a0 hw [] ((p1 &&& (2147483647 : Int32)) % (9 : Int32)) c0 c1 c2 c3 c4 c5 c6 c7 c8 a1 h0 S_SIMPLE S_ANNUALLY S_SEMI_ANNUALLY S_QUARTERLY S_MONTHLY S_FORTNIGHTLY S_WEEKLY S_DAILY S_CONTINUOUSLY hp) hZ (hw _ (List.mem_of_getElem? (i := 4) rfl)) (hw _ (List.mem_of_getElem? (i := 3) rfl)) (by decide) (by decide)) (g := (mkF m 9 #[.val (.int p1), .val (.int ((p1 &&& (2147483647 : Int32)) % (9 : Int32))), .unset, .unset] [(.int ((p1 &&& (2147483647 : Int32)) % (9 : Int32)))])) rfl (by rw [hml]; rfl) (argsL := [(.int ((p1 &&& (2147483647 : Int32)) % (9 : Int32)))]) (rest := []) (lenOf pd_1 rfl) rfl (by show 2 * 0 + _ ≤ _; exact Nat.le_of_eq rfl) (hb hby at_9) (fun _ _ => ⟨rfl, e0, (by decide : 0 + 0 ≤ _), (by decide : 0 + 0 ≤ _)⟩)
  dsimp only [Pt.U, Pt.locs, Pt.cells, Pt.slots] at Y11 l11 y11 z11 st11 hQ11
  subst l11 y11 z11
  obtain ⟨rfl, rfl, e11⟩ := hQ11
  have X11 : Stand p l e room_1 s m #[(.int p1)] below meth c T11 [] 0 0 := Y11
  refine own_lift (T' := T11) (f' := (mkF m 12 #[.val (.int p1), .val (.int ((p1 &&& (2147483647 : Int32)) % (9 : Int32))), .unset, .unset] [(.ref a1)])) (st11) ?_
  refine own_lift (T' := T11) (f' := (mkF m 13 #[.val (.int p1), .val (.int ((p1 &&& (2147483647 : Int32)) % (9 : Int32))), .val (.ref a1), .unset] [])) (fun _ k => XS.astoreN X11.here hx rfl (hb hby at_12) rfl rfl (l' := #[.val (.int p1), .val (.int ((p1 &&& (2147483647 : Int32)) % (9 : Int32))), .val (.ref a1), .unset]) rfl k) ?_
  refine own_lift (T' := T11) (f' := (mkF m 14 #[.val (.int p1), .val (.int ((p1 &&& (2147483647 : Int32)) % (9 : Int32))), .val (.ref a1), .unset] [(.int ((p1 &&& (2147483647 : Int32)) % (9 : Int32)))])) (fun _ k => XS.iloadN X11.here hx rfl (hb hby at_13) rfl k) ?_
  by_cases k0 : ((p1 &&& (2147483647 : Int32)) % (9 : Int32)) = (0 : Int32)
  · refine own_lift (T' := T11) (f' := (mkF m 27 #[.val (.int p1), .val (.int ((p1 &&& (2147483647 : Int32)) % (9 : Int32))), .val (.ref a1), .unset] [])) (fun _ k => XS.ifYes X11.here hx rfl (pc0 := 14) (pc' := 27) rfl (hb hby at_14) rfl ((if0 _ _).trans (teq k0).1) (by decide) (by decide) k) ?_
    refine own_lift (T' := T11) (f' := (mkF m 28 #[.val (.int p1), .val (.int ((p1 &&& (2147483647 : Int32)) % (9 : Int32))), .val (.ref a1), .unset] [(.int (0 : Int32))])) (fun _ k => XS.iconst X11.here hx rfl (hb hby at_27) k) ?_
    refine own_lift (T' := T11) (f' := (mkF m 29 #[.val (.int p1), .val (.int ((p1 &&& (2147483647 : Int32)) % (9 : Int32))), .val (.ref a1), .val (.int (0 : Int32))] [])) (fun _ k => XS.istoreN X11.here hx rfl (hb hby at_28) rfl (l' := #[.val (.int p1), .val (.int ((p1 &&& (2147483647 : Int32)) % (9 : Int32))), .val (.ref a1), .val (.int (0 : Int32))]) rfl k) ?_
    refine own_lift (T' := T11) (f' := (mkF m 30 #[.val (.int p1), .val (.int ((p1 &&& (2147483647 : Int32)) % (9 : Int32))), .val (.ref a1), .val (.int (0 : Int32))] [(.ref a1)])) (fun _ k => XS.aloadN X11.here hx rfl (hb hby at_29) rfl rfl k) ?_
    have hg : (0 : Int32) = if 0 < n then 1 else 0 := by simp [hn, k0]
    obtain ⟨cq12, kq12, q12a, q12b, q12c⟩ := isOf hZ e11 E_a
    obtain ⟨_, _, ⟨T12, L12, k12, n12⟩, -, Y12, ⟨Lc12, hQ12, l12, y12, z12⟩, st12⟩ := X11.virtualBack hx (y := (⟨"com/example/accrual/accrual/Compounding", "isPeriodic", "()Z"⟩ : MethodName)) (z := (⟨"com/example/accrual/accrual/Compounding", "isPeriodic", "()Z"⟩ : MethodName)) hown (mvT hZ (hw _ (List.mem_of_getElem? (i := 8) rfl))) (mvT hZ (hw _ (List.mem_of_getElem? (i := 9) rfl))) (notFace_of_selects (args := #[]) (mvT hZ (hw _ (List.mem_of_getElem? (i := 11) rfl)))) (mvT hZ (hw _ (List.mem_of_getElem? (i := 11) rfl))) (mvT hZ (hw _ (List.mem_of_getElem? (i := 10) rfl))) (by decide) (backOf (W := 0) (rm2 l Z a0 hw [] a1 n 0 h0 F_n hg) hZ (hw _ (List.mem_of_getElem? (i := 12) rfl)) (hw _ (List.mem_of_getElem? (i := 6) rfl)) (by decide) (by decide)) q12a q12c (g := (mkF m 30 #[.val (.int p1), .val (.int ((p1 &&& (2147483647 : Int32)) % (9 : Int32))), .val (.ref a1), .val (.int (0 : Int32))] [(.ref a1)])) rfl (by rw [hml]; rfl) (Steps.refl _) (argsL := []) (rest := []) (lenOf pd_2 rfl) rfl (by show 2 * 0 + _ ≤ _; exact Nat.le_of_eq rfl) (hb hby at_30) (fun _ _ => ⟨rfl, e11, (by decide : 0 + 0 ≤ _), (by decide : 0 + 0 ≤ _)⟩)
    dsimp only [Pt.U, Pt.locs, Pt.cells, Pt.slots] at Y12 l12 y12 z12 st12 hQ12
    subst l12 y12 z12
    obtain ⟨rfl, rfl, e12⟩ := hQ12
    have X12 : Stand p l e room_1 s m #[(.int p1)] below meth c T12 [] 0 0 := Y12
    refine own_lift (T' := T12) (f' := (mkF m 33 #[.val (.int p1), .val (.int ((p1 &&& (2147483647 : Int32)) % (9 : Int32))), .val (.ref a1), .val (.int (0 : Int32))] [(.int (0 : Int32))])) (fun _ k => st12.trans k) ?_
    refine own_lift (T' := T12) (f' := (mkF m 34 #[.val (.int p1), .val (.int ((p1 &&& (2147483647 : Int32)) % (9 : Int32))), .val (.ref a1), .val (.int (0 : Int32))] [(.int (0 : Int32)), (.int (0 : Int32))])) (fun _ k => XS.iloadN X12.here hx rfl (hb hby at_33) rfl k) ?_
    refine own_lift (T' := T12) (f' := (mkF m 37 #[.val (.int p1), .val (.int ((p1 &&& (2147483647 : Int32)) % (9 : Int32))), .val (.ref a1), .val (.int (0 : Int32))] [])) (fun _ k => XS.icmpNo X12.here hx rfl (hb hby at_34) rfl (teq rfl).2 k) ?_
    refine own_lift (T' := T12) (f' := (mkF m 38 #[.val (.int p1), .val (.int ((p1 &&& (2147483647 : Int32)) % (9 : Int32))), .val (.ref a1), .val (.int (0 : Int32))] [(.int (1 : Int32))])) (fun _ k => XS.iconst X12.here hx rfl (hb hby at_37) k) ?_
    refine own_lift (T' := T12) (f' := (mkF m 42 #[.val (.int p1), .val (.int ((p1 &&& (2147483647 : Int32)) % (9 : Int32))), .val (.ref a1), .val (.int (0 : Int32))] [(.int (1 : Int32))])) (fun _ k => XS.goto X12.here hx rfl (pc0 := 38) (pc' := 42) rfl (hb hby at_38) (by decide) (by decide) k) ?_
    exact own_retZ X12 hx hlk Bd.returns (hb hby at_42) e12 (by decide) rfl
  · refine own_lift (T' := T11) (f' := (mkF m 17 #[.val (.int p1), .val (.int ((p1 &&& (2147483647 : Int32)) % (9 : Int32))), .val (.ref a1), .unset] [])) (fun _ k => XS.ifNo X11.here hx rfl (hb hby at_14) rfl ((if0 _ _).trans (feq k0).1) k) ?_
    refine own_lift (T' := T11) (f' := (mkF m 18 #[.val (.int p1), .val (.int ((p1 &&& (2147483647 : Int32)) % (9 : Int32))), .val (.ref a1), .unset] [(.int ((p1 &&& (2147483647 : Int32)) % (9 : Int32)))])) (fun _ k => XS.iloadN X11.here hx rfl (hb hby at_17) rfl k) ?_
    refine own_lift (T' := T11) (f' := (mkF m 20 #[.val (.int p1), .val (.int ((p1 &&& (2147483647 : Int32)) % (9 : Int32))), .val (.ref a1), .unset] [(.int (8 : Int32)), (.int ((p1 &&& (2147483647 : Int32)) % (9 : Int32)))])) (fun _ k => XS.bipush X11.here hx rfl (hb hby at_18) k) ?_
    by_cases k8 : ((p1 &&& (2147483647 : Int32)) % (9 : Int32)) = (8 : Int32)
    · refine own_lift (T' := T11) (f' := (mkF m 27 #[.val (.int p1), .val (.int ((p1 &&& (2147483647 : Int32)) % (9 : Int32))), .val (.ref a1), .unset] [])) (fun _ k => XS.icmpYes X11.here hx rfl (pc0 := 20) (pc' := 27) rfl (hb hby at_20) rfl (teq k8).1 (by decide) (by decide) k) ?_
      refine own_lift (T' := T11) (f' := (mkF m 28 #[.val (.int p1), .val (.int ((p1 &&& (2147483647 : Int32)) % (9 : Int32))), .val (.ref a1), .unset] [(.int (0 : Int32))])) (fun _ k => XS.iconst X11.here hx rfl (hb hby at_27) k) ?_
      refine own_lift (T' := T11) (f' := (mkF m 29 #[.val (.int p1), .val (.int ((p1 &&& (2147483647 : Int32)) % (9 : Int32))), .val (.ref a1), .val (.int (0 : Int32))] [])) (fun _ k => XS.istoreN X11.here hx rfl (hb hby at_28) rfl (l' := #[.val (.int p1), .val (.int ((p1 &&& (2147483647 : Int32)) % (9 : Int32))), .val (.ref a1), .val (.int (0 : Int32))]) rfl k) ?_
      refine own_lift (T' := T11) (f' := (mkF m 30 #[.val (.int p1), .val (.int ((p1 &&& (2147483647 : Int32)) % (9 : Int32))), .val (.ref a1), .val (.int (0 : Int32))] [(.ref a1)])) (fun _ k => XS.aloadN X11.here hx rfl (hb hby at_29) rfl rfl k) ?_
      have hg : (0 : Int32) = if 0 < n then 1 else 0 := by simp [hn, k8]
      obtain ⟨cq13, kq13, q13a, q13b, q13c⟩ := isOf hZ e11 E_a
      obtain ⟨_, _, ⟨T13, L13, k13, n13⟩, -, Y13, ⟨Lc13, hQ13, l13, y13, z13⟩, st13⟩ := X11.virtualBack hx (y := (⟨"com/example/accrual/accrual/Compounding", "isPeriodic", "()Z"⟩ : MethodName)) (z := (⟨"com/example/accrual/accrual/Compounding", "isPeriodic", "()Z"⟩ : MethodName)) hown (mvT hZ (hw _ (List.mem_of_getElem? (i := 8) rfl))) (mvT hZ (hw _ (List.mem_of_getElem? (i := 9) rfl))) (notFace_of_selects (args := #[]) (mvT hZ (hw _ (List.mem_of_getElem? (i := 11) rfl)))) (mvT hZ (hw _ (List.mem_of_getElem? (i := 11) rfl))) (mvT hZ (hw _ (List.mem_of_getElem? (i := 10) rfl))) (by decide) (backOf (W := 0) (rm2 l Z a0 hw [] a1 n 0 h0 F_n hg) hZ (hw _ (List.mem_of_getElem? (i := 12) rfl)) (hw _ (List.mem_of_getElem? (i := 6) rfl)) (by decide) (by decide)) q13a q13c (g := (mkF m 30 #[.val (.int p1), .val (.int ((p1 &&& (2147483647 : Int32)) % (9 : Int32))), .val (.ref a1), .val (.int (0 : Int32))] [(.ref a1)])) rfl (by rw [hml]; rfl) (Steps.refl _) (argsL := []) (rest := []) (lenOf pd_2 rfl) rfl (by show 2 * 0 + _ ≤ _; exact Nat.le_of_eq rfl) (hb hby at_30) (fun _ _ => ⟨rfl, e11, (by decide : 0 + 0 ≤ _), (by decide : 0 + 0 ≤ _)⟩)
      dsimp only [Pt.U, Pt.locs, Pt.cells, Pt.slots] at Y13 l13 y13 z13 st13 hQ13
      subst l13 y13 z13
      obtain ⟨rfl, rfl, e13⟩ := hQ13
      have X13 : Stand p l e room_1 s m #[(.int p1)] below meth c T13 [] 0 0 := Y13
      refine own_lift (T' := T13) (f' := (mkF m 33 #[.val (.int p1), .val (.int ((p1 &&& (2147483647 : Int32)) % (9 : Int32))), .val (.ref a1), .val (.int (0 : Int32))] [(.int (0 : Int32))])) (fun _ k => st13.trans k) ?_
      refine own_lift (T' := T13) (f' := (mkF m 34 #[.val (.int p1), .val (.int ((p1 &&& (2147483647 : Int32)) % (9 : Int32))), .val (.ref a1), .val (.int (0 : Int32))] [(.int (0 : Int32)), (.int (0 : Int32))])) (fun _ k => XS.iloadN X13.here hx rfl (hb hby at_33) rfl k) ?_
      refine own_lift (T' := T13) (f' := (mkF m 37 #[.val (.int p1), .val (.int ((p1 &&& (2147483647 : Int32)) % (9 : Int32))), .val (.ref a1), .val (.int (0 : Int32))] [])) (fun _ k => XS.icmpNo X13.here hx rfl (hb hby at_34) rfl (teq rfl).2 k) ?_
      refine own_lift (T' := T13) (f' := (mkF m 38 #[.val (.int p1), .val (.int ((p1 &&& (2147483647 : Int32)) % (9 : Int32))), .val (.ref a1), .val (.int (0 : Int32))] [(.int (1 : Int32))])) (fun _ k => XS.iconst X13.here hx rfl (hb hby at_37) k) ?_
      refine own_lift (T' := T13) (f' := (mkF m 42 #[.val (.int p1), .val (.int ((p1 &&& (2147483647 : Int32)) % (9 : Int32))), .val (.ref a1), .val (.int (0 : Int32))] [(.int (1 : Int32))])) (fun _ k => XS.goto X13.here hx rfl (pc0 := 38) (pc' := 42) rfl (hb hby at_38) (by decide) (by decide) k) ?_
      exact own_retZ X13 hx hlk Bd.returns (hb hby at_42) e13 (by decide) rfl
    · refine own_lift (T' := T11) (f' := (mkF m 23 #[.val (.int p1), .val (.int ((p1 &&& (2147483647 : Int32)) % (9 : Int32))), .val (.ref a1), .unset] [])) (fun _ k => XS.icmpNo X11.here hx rfl (hb hby at_20) rfl (feq k8).1 k) ?_
      refine own_lift (T' := T11) (f' := (mkF m 24 #[.val (.int p1), .val (.int ((p1 &&& (2147483647 : Int32)) % (9 : Int32))), .val (.ref a1), .unset] [(.int (1 : Int32))])) (fun _ k => XS.iconst X11.here hx rfl (hb hby at_23) k) ?_
      refine own_lift (T' := T11) (f' := (mkF m 28 #[.val (.int p1), .val (.int ((p1 &&& (2147483647 : Int32)) % (9 : Int32))), .val (.ref a1), .unset] [(.int (1 : Int32))])) (fun _ k => XS.goto X11.here hx rfl (pc0 := 24) (pc' := 28) rfl (hb hby at_24) (by decide) (by decide) k) ?_
      refine own_lift (T' := T11) (f' := (mkF m 29 #[.val (.int p1), .val (.int ((p1 &&& (2147483647 : Int32)) % (9 : Int32))), .val (.ref a1), .val (.int (1 : Int32))] [])) (fun _ k => XS.istoreN X11.here hx rfl (hb hby at_28) rfl (l' := #[.val (.int p1), .val (.int ((p1 &&& (2147483647 : Int32)) % (9 : Int32))), .val (.ref a1), .val (.int (1 : Int32))]) rfl k) ?_
      refine own_lift (T' := T11) (f' := (mkF m 30 #[.val (.int p1), .val (.int ((p1 &&& (2147483647 : Int32)) % (9 : Int32))), .val (.ref a1), .val (.int (1 : Int32))] [(.ref a1)])) (fun _ k => XS.aloadN X11.here hx rfl (hb hby at_29) rfl rfl k) ?_
      have hg : (1 : Int32) = if 0 < n then 1 else 0 := by simp [hn, k0, k8]
      obtain ⟨cq14, kq14, q14a, q14b, q14c⟩ := isOf hZ e11 E_a
      obtain ⟨_, _, ⟨T14, L14, k14, n14⟩, -, Y14, ⟨Lc14, hQ14, l14, y14, z14⟩, st14⟩ := X11.virtualBack hx (y := (⟨"com/example/accrual/accrual/Compounding", "isPeriodic", "()Z"⟩ : MethodName)) (z := (⟨"com/example/accrual/accrual/Compounding", "isPeriodic", "()Z"⟩ : MethodName)) hown (mvT hZ (hw _ (List.mem_of_getElem? (i := 8) rfl))) (mvT hZ (hw _ (List.mem_of_getElem? (i := 9) rfl))) (notFace_of_selects (args := #[]) (mvT hZ (hw _ (List.mem_of_getElem? (i := 11) rfl)))) (mvT hZ (hw _ (List.mem_of_getElem? (i := 11) rfl))) (mvT hZ (hw _ (List.mem_of_getElem? (i := 10) rfl))) (by decide) (backOf (W := 0) (rm2 l Z a0 hw [] a1 n 1 h0 F_n hg) hZ (hw _ (List.mem_of_getElem? (i := 12) rfl)) (hw _ (List.mem_of_getElem? (i := 6) rfl)) (by decide) (by decide)) q14a q14c (g := (mkF m 30 #[.val (.int p1), .val (.int ((p1 &&& (2147483647 : Int32)) % (9 : Int32))), .val (.ref a1), .val (.int (1 : Int32))] [(.ref a1)])) rfl (by rw [hml]; rfl) (Steps.refl _) (argsL := []) (rest := []) (lenOf pd_2 rfl) rfl (by show 2 * 0 + _ ≤ _; exact Nat.le_of_eq rfl) (hb hby at_30) (fun _ _ => ⟨rfl, e11, (by decide : 0 + 0 ≤ _), (by decide : 0 + 0 ≤ _)⟩)
      dsimp only [Pt.U, Pt.locs, Pt.cells, Pt.slots] at Y14 l14 y14 z14 st14 hQ14
      subst l14 y14 z14
      obtain ⟨rfl, rfl, e14⟩ := hQ14
      have X14 : Stand p l e room_1 s m #[(.int p1)] below meth c T14 [] 0 0 := Y14
      refine own_lift (T' := T14) (f' := (mkF m 33 #[.val (.int p1), .val (.int ((p1 &&& (2147483647 : Int32)) % (9 : Int32))), .val (.ref a1), .val (.int (1 : Int32))] [(.int (1 : Int32))])) (fun _ k => st14.trans k) ?_
      refine own_lift (T' := T14) (f' := (mkF m 34 #[.val (.int p1), .val (.int ((p1 &&& (2147483647 : Int32)) % (9 : Int32))), .val (.ref a1), .val (.int (1 : Int32))] [(.int (1 : Int32)), (.int (1 : Int32))])) (fun _ k => XS.iloadN X14.here hx rfl (hb hby at_33) rfl k) ?_
      refine own_lift (T' := T14) (f' := (mkF m 37 #[.val (.int p1), .val (.int ((p1 &&& (2147483647 : Int32)) % (9 : Int32))), .val (.ref a1), .val (.int (1 : Int32))] [])) (fun _ k => XS.icmpNo X14.here hx rfl (hb hby at_34) rfl (teq rfl).2 k) ?_
      refine own_lift (T' := T14) (f' := (mkF m 38 #[.val (.int p1), .val (.int ((p1 &&& (2147483647 : Int32)) % (9 : Int32))), .val (.ref a1), .val (.int (1 : Int32))] [(.int (1 : Int32))])) (fun _ k => XS.iconst X14.here hx rfl (hb hby at_37) k) ?_
      refine own_lift (T' := T14) (f' := (mkF m 42 #[.val (.int p1), .val (.int ((p1 &&& (2147483647 : Int32)) % (9 : Int32))), .val (.ref a1), .val (.int (1 : Int32))] [(.int (1 : Int32))])) (fun _ k => XS.goto X14.here hx rfl (pc0 := 38) (pc' := 42) rfl (hb hby at_38) (by decide) (by decide) k) ?_
      exact own_retZ X14 hx hlk Bd.returns (hb hby at_42) e14 (by decide) rfl
set_option maxRecDepth 65536 in
set_option maxHeartbeats 40000000 in
theorem comes_1 {Post : Tables → Env → Array Value → State → Outcome → State → Prop} (hpost : ∀ tb e args s v u, (limb_1_1.after args s (.returned v) u = true ∧ limb_1_2.after args s (.returned v) u = true ∧ True) → FrameEnd s (.returned v) u (Jvm.fieldLocs frame_1_writes args s ++ Jvm.arrayLocs frame_1_arrays args s ++ Jvm.staticLocs frame_1_statics s) 0 0 → Post tb e args s (.returned v) u) :
    ArmFor flags0 classFile x code maxLocals ret World_1 tables_1 room_1 Calls_1 rest_1 Pre_1 Post := by
  intro l hfl _ _ p e ha hc hk s m args below hf hA hF happ hP
  obtain ⟨hcalls, hrest, hpre⟩ := hP
  obtain ⟨-, -, -, hnamed, -, -, -, hat⟩ := (Spec.applies_iff hf).mp happ
  obtain ⟨hg, hn⟩ := and_e (Cond.before_iff.mp (show (Jvm.Cond.and given_1 narrow_1).before args s = true from hpre))
  obtain ⟨g0, hg⟩ := and_e hg
  obtain ⟨w0, rfl⟩ : ∃ w0 : Value, args = #[w0] := by
    have hs : args.size = 1 := by simpa [Cond.value, given_1] using g0
    obtain ⟨L⟩ := args
    match L, hs with
    | [w0], _ => exact ⟨w0, rfl⟩
  have hw := fun d (hd : d ∈ tables_1) => atoms_spec (ws := Jvm.Cond.code x code maxLocals ret :: tables_1) hat d (List.mem_cons_of_mem _ hd)
  obtain ⟨i0, ei0⟩ := is_v hg
  obtain rfl : w0 = (.int i0) := Option.some.inj ei0
  obtain ⟨c0, hn⟩ := and_e hn
  obtain ⟨c1, hn⟩ := and_e hn
  obtain ⟨c2, hn⟩ := and_e hn
  obtain ⟨c3, hn⟩ := and_e hn
  obtain ⟨c4, hn⟩ := and_e hn
  obtain ⟨c5, hn⟩ := and_e hn
  obtain ⟨c6, hn⟩ := and_e hn
  obtain ⟨c7, hn⟩ := and_e hn
  obtain ⟨c8, hn⟩ := and_e hn
  obtain ⟨c9, hn⟩ := and_e hn
  obtain ⟨c10, hn⟩ := and_e hn
  obtain ⟨c11, hn⟩ := and_e hn
  obtain ⟨c12, hn⟩ := and_e hn
  obtain ⟨c13, hn⟩ := and_e hn
  obtain ⟨c14, hn⟩ := and_e hn
  obtain ⟨c15, hn⟩ := and_e hn
  obtain ⟨c16, hn⟩ := and_e hn
  have c17 := hn
  obtain ⟨a_SIMPLE, ev_SIMPLE⟩ := exa_v c0
  have S_SIMPLE : Sta s s.heap "com/example/accrual/accrual/Compounding" "SIMPLE" "Lcom/example/accrual/accrual/Compounding;" (.ref a_SIMPLE) := Sta.start ev_SIMPLE (Or.inr ⟨(hw _ (List.mem_of_getElem? (i := 6) rfl)), (hw _ (List.mem_of_getElem? (i := 7) rfl))⟩)
  have E_SIMPLE : Exa s s.heap a_SIMPLE "com/example/accrual/accrual/Compounding" := Exa.start ev_SIMPLE c0
  obtain ⟨a_QUARTERLY, ev_QUARTERLY⟩ := exa_v c2
  have S_QUARTERLY : Sta s s.heap "com/example/accrual/accrual/Compounding" "QUARTERLY" "Lcom/example/accrual/accrual/Compounding;" (.ref a_QUARTERLY) := Sta.start ev_QUARTERLY (Or.inr ⟨(hw _ (List.mem_of_getElem? (i := 6) rfl)), (hw _ (List.mem_of_getElem? (i := 16) rfl))⟩)
  have E_QUARTERLY : Exa s s.heap a_QUARTERLY "com/example/accrual/accrual/Compounding" := Exa.start ev_QUARTERLY c2
  obtain ⟨a_SEMI_ANNUALLY, ev_SEMI_ANNUALLY⟩ := exa_v c4
  have S_SEMI_ANNUALLY : Sta s s.heap "com/example/accrual/accrual/Compounding" "SEMI_ANNUALLY" "Lcom/example/accrual/accrual/Compounding;" (.ref a_SEMI_ANNUALLY) := Sta.start ev_SEMI_ANNUALLY (Or.inr ⟨(hw _ (List.mem_of_getElem? (i := 6) rfl)), (hw _ (List.mem_of_getElem? (i := 18) rfl))⟩)
  have E_SEMI_ANNUALLY : Exa s s.heap a_SEMI_ANNUALLY "com/example/accrual/accrual/Compounding" := Exa.start ev_SEMI_ANNUALLY c4
  obtain ⟨a_ANNUALLY, ev_ANNUALLY⟩ := exa_v c6
  have S_ANNUALLY : Sta s s.heap "com/example/accrual/accrual/Compounding" "ANNUALLY" "Lcom/example/accrual/accrual/Compounding;" (.ref a_ANNUALLY) := Sta.start ev_ANNUALLY (Or.inr ⟨(hw _ (List.mem_of_getElem? (i := 6) rfl)), (hw _ (List.mem_of_getElem? (i := 20) rfl))⟩)
  have E_ANNUALLY : Exa s s.heap a_ANNUALLY "com/example/accrual/accrual/Compounding" := Exa.start ev_ANNUALLY c6
  obtain ⟨a_DAILY, ev_DAILY⟩ := exa_v c8
  have S_DAILY : Sta s s.heap "com/example/accrual/accrual/Compounding" "DAILY" "Lcom/example/accrual/accrual/Compounding;" (.ref a_DAILY) := Sta.start ev_DAILY (Or.inr ⟨(hw _ (List.mem_of_getElem? (i := 6) rfl)), (hw _ (List.mem_of_getElem? (i := 22) rfl))⟩)
  have E_DAILY : Exa s s.heap a_DAILY "com/example/accrual/accrual/Compounding" := Exa.start ev_DAILY c8
  obtain ⟨a_MONTHLY, ev_MONTHLY⟩ := exa_v c10
  have S_MONTHLY : Sta s s.heap "com/example/accrual/accrual/Compounding" "MONTHLY" "Lcom/example/accrual/accrual/Compounding;" (.ref a_MONTHLY) := Sta.start ev_MONTHLY (Or.inr ⟨(hw _ (List.mem_of_getElem? (i := 6) rfl)), (hw _ (List.mem_of_getElem? (i := 24) rfl))⟩)
  have E_MONTHLY : Exa s s.heap a_MONTHLY "com/example/accrual/accrual/Compounding" := Exa.start ev_MONTHLY c10
  obtain ⟨a_CONTINUOUSLY, ev_CONTINUOUSLY⟩ := exa_v c12
  have S_CONTINUOUSLY : Sta s s.heap "com/example/accrual/accrual/Compounding" "CONTINUOUSLY" "Lcom/example/accrual/accrual/Compounding;" (.ref a_CONTINUOUSLY) := Sta.start ev_CONTINUOUSLY (Or.inr ⟨(hw _ (List.mem_of_getElem? (i := 6) rfl)), (hw _ (List.mem_of_getElem? (i := 26) rfl))⟩)
  have E_CONTINUOUSLY : Exa s s.heap a_CONTINUOUSLY "com/example/accrual/accrual/Compounding" := Exa.start ev_CONTINUOUSLY c12
  obtain ⟨a_WEEKLY, ev_WEEKLY⟩ := exa_v c14
  have S_WEEKLY : Sta s s.heap "com/example/accrual/accrual/Compounding" "WEEKLY" "Lcom/example/accrual/accrual/Compounding;" (.ref a_WEEKLY) := Sta.start ev_WEEKLY (Or.inr ⟨(hw _ (List.mem_of_getElem? (i := 6) rfl)), (hw _ (List.mem_of_getElem? (i := 28) rfl))⟩)
  have E_WEEKLY : Exa s s.heap a_WEEKLY "com/example/accrual/accrual/Compounding" := Exa.start ev_WEEKLY c14
  obtain ⟨a_FORTNIGHTLY, ev_FORTNIGHTLY⟩ := exa_v c16
  have S_FORTNIGHTLY : Sta s s.heap "com/example/accrual/accrual/Compounding" "FORTNIGHTLY" "Lcom/example/accrual/accrual/Compounding;" (.ref a_FORTNIGHTLY) := Sta.start ev_FORTNIGHTLY (Or.inr ⟨(hw _ (List.mem_of_getElem? (i := 6) rfl)), (hw _ (List.mem_of_getElem? (i := 30) rfl))⟩)
  have E_FORTNIGHTLY : Exa s s.heap a_FORTNIGHTLY "com/example/accrual/accrual/Compounding" := Exa.start ev_FORTNIGHTLY c16
  have F_SIMPLE_periodsPerYear : Fld s s.heap a_SIMPLE "com/example/accrual/accrual/Compounding" "periodsPerYear" "I" (.int (0 : Int32)) := Fld.start (own_fld ev_SIMPLE c1)
  have F_QUARTERLY_periodsPerYear : Fld s s.heap a_QUARTERLY "com/example/accrual/accrual/Compounding" "periodsPerYear" "I" (.int (4 : Int32)) := Fld.start (own_fld ev_QUARTERLY c3)
  have F_SEMI_ANNUALLY_periodsPerYear : Fld s s.heap a_SEMI_ANNUALLY "com/example/accrual/accrual/Compounding" "periodsPerYear" "I" (.int (2 : Int32)) := Fld.start (own_fld ev_SEMI_ANNUALLY c5)
  have F_ANNUALLY_periodsPerYear : Fld s s.heap a_ANNUALLY "com/example/accrual/accrual/Compounding" "periodsPerYear" "I" (.int (1 : Int32)) := Fld.start (own_fld ev_ANNUALLY c7)
  have F_DAILY_periodsPerYear : Fld s s.heap a_DAILY "com/example/accrual/accrual/Compounding" "periodsPerYear" "I" (.int (365 : Int32)) := Fld.start (own_fld ev_DAILY c9)
  have F_MONTHLY_periodsPerYear : Fld s s.heap a_MONTHLY "com/example/accrual/accrual/Compounding" "periodsPerYear" "I" (.int (12 : Int32)) := Fld.start (own_fld ev_MONTHLY c11)
  have F_CONTINUOUSLY_periodsPerYear : Fld s s.heap a_CONTINUOUSLY "com/example/accrual/accrual/Compounding" "periodsPerYear" "I" (.int (0 : Int32)) := Fld.start (own_fld ev_CONTINUOUSLY c13)
  have F_WEEKLY_periodsPerYear : Fld s s.heap a_WEEKLY "com/example/accrual/accrual/Compounding" "periodsPerYear" "I" (.int (52 : Int32)) := Fld.start (own_fld ev_WEEKLY c15)
  have F_FORTNIGHTLY_periodsPerYear : Fld s s.heap a_FORTNIGHTLY "com/example/accrual/accrual/Compounding" "periodsPerYear" "I" (.int (26 : Int32)) := Fld.start (own_fld ev_FORTNIGHTLY c17)
  obtain ⟨a1, n, q1, q2, q3, q4⟩ : ∃ (a1 : Addr) (n : Int32), a1 = own_pick ((i0 &&& (2147483647 : Int32)) % (9 : Int32)) a_SIMPLE a_ANNUALLY a_SEMI_ANNUALLY a_QUARTERLY a_MONTHLY a_FORTNIGHTLY a_WEEKLY a_DAILY a_CONTINUOUSLY ∧ Exa s s.heap a1 "com/example/accrual/accrual/Compounding" ∧ Fld s s.heap a1 "com/example/accrual/accrual/Compounding" "periodsPerYear" "I" (.int n) ∧ (0 < n ↔ ¬ (((i0 &&& (2147483647 : Int32)) % (9 : Int32)) = 0 ∨ ((i0 &&& (2147483647 : Int32)) % (9 : Int32)) = 8)) := by
    obtain ⟨j, hj, ej⟩ := own_idx i0 9 (by decide)
    have hj9 : j = 0 ∨ j = 1 ∨ j = 2 ∨ j = 3 ∨ j = 4 ∨ j = 5 ∨ j = 6 ∨ j = 7 ∨ j = 8 := by have q : (9 : Int32).toInt = 9 := rfl; omega
    rw [ej]
    rcases hj9 with rfl | rfl | rfl | rfl | rfl | rfl | rfl | rfl | rfl
    · exact ⟨a_SIMPLE, 0, rfl, E_SIMPLE, F_SIMPLE_periodsPerYear, by decide⟩
    · exact ⟨a_ANNUALLY, 1, rfl, E_ANNUALLY, F_ANNUALLY_periodsPerYear, by decide⟩
    · exact ⟨a_SEMI_ANNUALLY, 2, rfl, E_SEMI_ANNUALLY, F_SEMI_ANNUALLY_periodsPerYear, by decide⟩
    · exact ⟨a_QUARTERLY, 4, rfl, E_QUARTERLY, F_QUARTERLY_periodsPerYear, by decide⟩
    · exact ⟨a_MONTHLY, 12, rfl, E_MONTHLY, F_MONTHLY_periodsPerYear, by decide⟩
    · exact ⟨a_FORTNIGHTLY, 26, rfl, E_FORTNIGHTLY, F_FORTNIGHTLY_periodsPerYear, by decide⟩
    · exact ⟨a_WEEKLY, 52, rfl, E_WEEKLY, F_WEEKLY_periodsPerYear, by decide⟩
    · exact ⟨a_DAILY, 365, rfl, E_DAILY, F_DAILY_periodsPerYear, by decide⟩
    · exact ⟨a_CONTINUOUSLY, 0, rfl, E_CONTINUOUSLY, F_CONTINUOUSLY_periodsPerYear, by decide⟩
  obtain ⟨n, o, h1, h2, h3, _, L, rfl, ⟨rfl, rfl, -⟩, hq⟩ := rm0 l s _ hw tables_1 i0 a_SIMPLE a_ANNUALLY a_SEMI_ANNUALLY a_QUARTERLY a_MONTHLY a_FORTNIGHTLY a_WEEKLY a_DAILY a_CONTINUOUSLY a1 n s.heap S_SIMPLE S_ANNUALLY S_SEMI_ANNUALLY S_QUARTERLY S_MONTHLY S_FORTNIGHTLY S_WEEKLY S_DAILY S_CONTINUOUSLY q1 q2 q3 q4 p e ha hc hk s m _ below hf ((Spec.applies_iff_loose hf).mp happ).1 ⟨rfl, State.Warmed39.refl s, rfl⟩ trivial
  refine ⟨n, _, h1, h2, h3, hpost _ _ _ _ _ _ ⟨Cond.after_iff.mpr rfl, Cond.after_iff.mpr (eq_i res_at (Term.int_eval (1)) rfl), trivial⟩ ⟨hq.1, hq.2.1, (hq.2.2.sift fun y hy => Or.inr (Fr.nil s.heap.size y hy)).mono (by decide) (by decide)⟩⟩
theorem main_1_1 : Claimed_1_1 := comes_1 fun _ _ _ _ _ _ h hF => ⟨h.1, hF⟩
theorem main_1_2 : Claimed_1_2 := comes_1 fun _ _ _ _ _ _ h hF => ⟨h.2.1, hF⟩
end Jvm.Pilot.@@N@@
namespace Jvm.Pilot.@@N@@
open Jvm Jvm.ClassFile Sem Op Lib Jvm.Free Jvm.Stand Jvm.Pilot.@@N@@.Jvm.D
/-! MADE BY PROGRAM (witnessworld.py) out of the Statement's table words and the real class files: 10 classes; the members and pool entries that the words name. The judged class is class 1, her method 2. -/
namespace start1
open Jvm.ClassFile
def u (s : String) : CpInfo := .utf8 (stringToUtf16 s)
/-- a pool by its gaps: so many unusable entries, then the entry; so many at the end -/
def gap : Nat → List CpInfo → List CpInfo
  | 0, r => r
  | n + 1, r => .unusable :: gap n r
def poolList (es : List (Nat × CpInfo)) (last : Nat) : List CpInfo := es.foldr (fun e r => gap e.1 (e.2 :: r)) (gap last [])
def pool (es : List (Nat × CpInfo)) (last : Nat) : Array CpInfo := ⟨poolList es last⟩
def fileOf (pool : Array CpInfo) (this : Nat) (attrs : Array Attribute := #[]) (ms : Array MethodInfo := #[]) (fl : Nat := 33) (sup : Nat := 0) (ifs : Array Nat := #[]) (fds : Array FieldInfo := #[]) : ClassFile where
  minorVersion := 0
  majorVersion := 65
  constantPool := pool
  accessFlags := fl
  thisClass := this
  superClass := sup
  interfaces := ifs
  fields := fds
  methods := ms
  attributes := attrs
def plain (name : String) (sup : Option ClassId) : Class where
  name := name
  kind := .ordinary
  loader := none
  accessFlags := 33
  super := sup
  interfaces := #[]
  cf := none
  fields := #[]
  methods := #[]
  instanceTypes := #[]
  staticTypes := #[]
  resolved := #[]
  callSites := []
  init := .initialized
  statics := none
  mirror := none

def pool0 : Array CpInfo := pool [(5, u "<init>"), (0, u "()V"), (1, .class_ 10), (1, u "java/lang/Object")] 113

def k0m0 : Method := { name := "<init>", desc := "()V", sig := { parameters := [], returnType := none }, accessFlags := 1, code := none }
/-- java/lang/Object -/
def k0 : Class := { plain "java/lang/Object" none with
  accessFlags := 33
  interfaces := #[]
  cf := some (fileOf pool0 8 #[] #[{ accessFlags := 1, nameIndex := 5, descriptorIndex := 6, attributes := #[] }] 33 0 #[] #[])
  fields := #[]
  methods := #[k0m0]
  instanceTypes := #[]
  staticTypes := #[]
  resolved := Array.replicate 124 none
  statics := none }

def pool1 : Array CpInfo := pool [(2, .class_ 4), (1, u "java/lang/Object"), (0, u "<init>"), (0, u "()V"), (0, .fieldref 8 9), (0, .class_ 10), (0, .nameAndType 11 12), (0, u "com/example/accrual/accrual/Compounding"), (0, u "SIMPLE"), (0, u "Lcom/example/accrual/accrual/Compounding;"), (0, .fieldref 8 14), (0, .nameAndType 15 12), (0, u "ANNUALLY"), (0, .fieldref 8 17), (0, .nameAndType 18 12), (0, u "SEMI_ANNUALLY"), (0, .fieldref 8 20), (0, .nameAndType 21 12), (0, u "QUARTERLY"), (0, .fieldref 8 23), (0, .nameAndType 24 12), (0, u "MONTHLY"), (0, .fieldref 8 26), (0, .nameAndType 27 12), (0, u "FORTNIGHTLY"), (0, .fieldref 8 29), (0, .nameAndType 30 12), (0, u "WEEKLY"), (0, .fieldref 8 32), (0, .nameAndType 33 12), (0, u "DAILY"), (0, .fieldref 8 35), (0, .nameAndType 36 12), (0, u "CONTINUOUSLY"), (0, .integer 2147483647), (0, .methodref 39 40), (0, .class_ 41), (0, .nameAndType 42 43), (0, u "com/example/accrual/accrual/CompoundingIsPeriodicPinLaw"), (0, u "pick"), (0, u "(I)Lcom/example/accrual/accrual/Compounding;"), (0, .methodref 8 45), (0, .nameAndType 46 47), (0, u "isPeriodic"), (0, u "()Z"), (3, u "law"), (0, u "(I)Z")] 2

def k1m0 : Method := { name := "<init>", desc := "()V", sig := { parameters := [], returnType := none }, accessFlags := 1, code := none }
def k1c1 : Code := { maxStack := 2, maxLocals := 1, code := method_2_code, exceptionTable := #[], attributes := #[] }
def k1m1 : Method := { name := "pick", desc := "(I)Lcom/example/accrual/accrual/Compounding;", sig := { parameters := [.int], returnType := some (.object "com/example/accrual/accrual/Compounding") }, accessFlags := 10, code := some k1c1 }
def k1c2 : Code := { maxStack := 2, maxLocals := 4, code := code, exceptionTable := #[], attributes := #[] }
def k1m2 : Method := { name := "law", desc := "(I)Z", sig := { parameters := [.int], returnType := some .boolean }, accessFlags := 9, code := some k1c2 }
/-- com/example/accrual/accrual/CompoundingIsPeriodicPinLaw -/
def k1 : Class := { plain "com/example/accrual/accrual/CompoundingIsPeriodicPinLaw" (some 0) with
  accessFlags := 49
  interfaces := #[]
  cf := some (fileOf pool1 39 #[] #[{ accessFlags := 1, nameIndex := 5, descriptorIndex := 6, attributes := #[] }, { accessFlags := 10, nameIndex := 42, descriptorIndex := 43, attributes := #[] }, { accessFlags := 9, nameIndex := 51, descriptorIndex := 52, attributes := #[] }] 49 2 #[] #[])
  fields := #[]
  methods := #[k1m0, k1m1, k1m2]
  instanceTypes := #[]
  staticTypes := #[]
  resolved := Array.replicate 55 none
  statics := none }

def pool2 : Array CpInfo := pool [(1, .class_ 2), (0, u "java/lang/constant/Constable"), (0, .class_ 4), (0, u "java/lang/Object")] 6

/-- java/lang/constant/Constable -/
def k2 : Class := { plain "java/lang/constant/Constable" (some 0) with
  accessFlags := 1537
  interfaces := #[]
  cf := some (fileOf pool2 1 #[] #[] 1537 3 #[] #[])
  fields := #[]
  methods := #[]
  instanceTypes := #[]
  staticTypes := #[]
  resolved := Array.replicate 11 none
  statics := none }

def pool3 : Array CpInfo := pool [(1, .class_ 2), (0, u "java/lang/Comparable"), (0, .class_ 4), (0, u "java/lang/Object")] 7

/-- java/lang/Comparable -/
def k3 : Class := { plain "java/lang/Comparable" (some 0) with
  accessFlags := 1537
  interfaces := #[]
  cf := some (fileOf pool3 1 #[] #[] 1537 3 #[] #[])
  fields := #[]
  methods := #[]
  instanceTypes := #[]
  staticTypes := #[]
  resolved := Array.replicate 12 none
  statics := none }

def pool4 : Array CpInfo := pool [(1, .class_ 2), (0, u "java/io/Serializable"), (0, .class_ 4), (0, u "java/lang/Object")] 2

/-- java/io/Serializable -/
def k4 : Class := { plain "java/io/Serializable" (some 0) with
  accessFlags := 1537
  interfaces := #[]
  cf := some (fileOf pool4 1 #[] #[] 1537 3 #[] #[])
  fields := #[]
  methods := #[]
  instanceTypes := #[]
  staticTypes := #[]
  resolved := Array.replicate 7 none
  statics := none }

def pool5 : Array CpInfo := pool [(2, .class_ 4), (1, u "java/lang/Enum"), (0, u "name"), (0, u "Ljava/lang/String;"), (2, u "ordinal"), (0, u "I"), (1, .class_ 14), (1, u "java/lang/Object"), (4, u "hash"), (86, .class_ 108), (1, u "java/lang/Enum$EnumDesc"), (2, .class_ 112), (0, u "java/lang/constant/Constable"), (0, .class_ 114), (0, u "java/lang/Comparable"), (0, .class_ 116), (0, u "java/io/Serializable")] 87

/-- java/lang/Enum -/
def k5 : Class := { plain "java/lang/Enum" (some 0) with
  accessFlags := 1057
  interfaces := #[2, 3, 4]
  cf := some (fileOf pool5 2 #[.nestMembers #[106]] #[] 1057 12 #[111, 113, 115] #[{ accessFlags := 18, nameIndex := 5, descriptorIndex := 6, attributes := #[] }, { accessFlags := 18, nameIndex := 9, descriptorIndex := 10, attributes := #[] }, { accessFlags := 2, nameIndex := 19, descriptorIndex := 10, attributes := #[] }])
  fields := #[{ name := "name", type := (.object "java/lang/String"), accessFlags := 18, slot := 0, constantValue := 0 }, { name := "ordinal", type := .int, accessFlags := 18, slot := 1, constantValue := 0 }, { name := "hash", type := .int, accessFlags := 2, slot := 2, constantValue := 0 }]
  methods := #[]
  instanceTypes := #[(.object "java/lang/String"), .int, .int]
  staticTypes := #[]
  resolved := Array.replicate 204 none
  statics := none }

def pool6 : Array CpInfo := pool [(1, .class_ 2), (0, u "com/example/accrual/accrual/Compounding"), (2, u "SIMPLE"), (0, u "Lcom/example/accrual/accrual/Compounding;"), (2, u "ANNUALLY"), (2, u "SEMI_ANNUALLY"), (2, u "QUARTERLY"), (2, u "MONTHLY"), (2, u "FORTNIGHTLY"), (2, u "WEEKLY"), (2, u "DAILY"), (2, u "CONTINUOUSLY"), (2, u "$VALUES"), (0, u "[Lcom/example/accrual/accrual/Compounding;"), (6, .class_ 43), (1, u "java/lang/Enum"), (6, .fieldref 1 51), (0, .nameAndType 52 53), (0, u "periodsPerYear"), (0, u "I"), (44, u "isPeriodic"), (0, u "()Z")] 7

def k6c0 : Code := { maxStack := 1, maxLocals := 1, code := prog_3_method_5_code, exceptionTable := #[], attributes := #[] }
def k6m0 : Method := { name := "isPeriodic", desc := "()Z", sig := { parameters := [], returnType := some .boolean }, accessFlags := 1, code := some k6c0 }
/-- com/example/accrual/accrual/Compounding -/
def k6 : Class := { plain "com/example/accrual/accrual/Compounding" (some 5) with
  accessFlags := 16433
  interfaces := #[]
  cf := some (fileOf pool6 1 #[] #[{ accessFlags := 1, nameIndex := 98, descriptorIndex := 99, attributes := #[] }] 16433 41 #[] #[{ accessFlags := 16409, nameIndex := 5, descriptorIndex := 6, attributes := #[] }, { accessFlags := 16409, nameIndex := 9, descriptorIndex := 6, attributes := #[] }, { accessFlags := 16409, nameIndex := 12, descriptorIndex := 6, attributes := #[] }, { accessFlags := 16409, nameIndex := 15, descriptorIndex := 6, attributes := #[] }, { accessFlags := 16409, nameIndex := 18, descriptorIndex := 6, attributes := #[] }, { accessFlags := 16409, nameIndex := 21, descriptorIndex := 6, attributes := #[] }, { accessFlags := 16409, nameIndex := 24, descriptorIndex := 6, attributes := #[] }, { accessFlags := 16409, nameIndex := 27, descriptorIndex := 6, attributes := #[] }, { accessFlags := 16409, nameIndex := 30, descriptorIndex := 6, attributes := #[] }, { accessFlags := 18, nameIndex := 52, descriptorIndex := 53, attributes := #[] }, { accessFlags := 4122, nameIndex := 33, descriptorIndex := 34, attributes := #[] }])
  fields := #[{ name := "SIMPLE", type := (.object "com/example/accrual/accrual/Compounding"), accessFlags := 16409, slot := 0, constantValue := 0 }, { name := "ANNUALLY", type := (.object "com/example/accrual/accrual/Compounding"), accessFlags := 16409, slot := 1, constantValue := 0 }, { name := "SEMI_ANNUALLY", type := (.object "com/example/accrual/accrual/Compounding"), accessFlags := 16409, slot := 2, constantValue := 0 }, { name := "QUARTERLY", type := (.object "com/example/accrual/accrual/Compounding"), accessFlags := 16409, slot := 3, constantValue := 0 }, { name := "MONTHLY", type := (.object "com/example/accrual/accrual/Compounding"), accessFlags := 16409, slot := 4, constantValue := 0 }, { name := "FORTNIGHTLY", type := (.object "com/example/accrual/accrual/Compounding"), accessFlags := 16409, slot := 5, constantValue := 0 }, { name := "WEEKLY", type := (.object "com/example/accrual/accrual/Compounding"), accessFlags := 16409, slot := 6, constantValue := 0 }, { name := "DAILY", type := (.object "com/example/accrual/accrual/Compounding"), accessFlags := 16409, slot := 7, constantValue := 0 }, { name := "CONTINUOUSLY", type := (.object "com/example/accrual/accrual/Compounding"), accessFlags := 16409, slot := 8, constantValue := 0 }, { name := "periodsPerYear", type := .int, accessFlags := 18, slot := 3, constantValue := 0 }, { name := "$VALUES", type := (.array (.object "com/example/accrual/accrual/Compounding")), accessFlags := 4122, slot := 9, constantValue := 0 }]
  methods := #[k6m0]
  instanceTypes := #[(.object "java/lang/String"), .int, .int, .int]
  staticTypes := #[(.object "com/example/accrual/accrual/Compounding"), (.object "com/example/accrual/accrual/Compounding"), (.object "com/example/accrual/accrual/Compounding"), (.object "com/example/accrual/accrual/Compounding"), (.object "com/example/accrual/accrual/Compounding"), (.object "com/example/accrual/accrual/Compounding"), (.object "com/example/accrual/accrual/Compounding"), (.object "com/example/accrual/accrual/Compounding"), (.object "com/example/accrual/accrual/Compounding"), (.array (.object "com/example/accrual/accrual/Compounding"))]
  resolved := Array.replicate 107 none
  statics := some 0 }

def pool7 : Array CpInfo := pool [(1, u "java/lang/Cloneable"), (0, .class_ 1), (0, u "java/lang/Object"), (0, .class_ 3)] 3

/-- java/lang/Cloneable -/
def k7 : Class := { plain "java/lang/Cloneable" (some 0) with
  accessFlags := 1537
  interfaces := #[]
  cf := some (fileOf pool7 2 #[] #[] 1537 4 #[] #[])
  fields := #[]
  methods := #[]
  instanceTypes := #[]
  staticTypes := #[]
  resolved := Array.replicate 8 none
  statics := none }

/-- the primitive byte -/
def k8 : Class := { plain "byte" none with kind := .primitive 'B', accessFlags := 0x411 }
/-- [B -/
def k9 : Class := { plain "[B" (some 0) with kind := .array 8 .byte, interfaces := #[7, 4], accessFlags := 1041 }

def heap : Heap := #[{ cls := 6, slots := #[.ref 1, .ref 2, .ref 3, .ref 4, .ref 5, .ref 6, .ref 7, .ref 8, .ref 9, .null], vm := .statics 6 },
  { cls := 6, slots := #[.null, .int 0, .int 0, .int 0], vm := .none },
  { cls := 6, slots := #[.null, .int 1, .int 0, .int 1], vm := .none },
  { cls := 6, slots := #[.null, .int 2, .int 0, .int 2], vm := .none },
  { cls := 6, slots := #[.null, .int 3, .int 0, .int 4], vm := .none },
  { cls := 6, slots := #[.null, .int 4, .int 0, .int 12], vm := .none },
  { cls := 6, slots := #[.null, .int 5, .int 0, .int 26], vm := .none },
  { cls := 6, slots := #[.null, .int 6, .int 0, .int 52], vm := .none },
  { cls := 6, slots := #[.null, .int 7, .int 0, .int 365], vm := .none },
  { cls := 6, slots := #[.null, .int 8, .int 0, .int 0], vm := .none }]
def classes : Array Class := #[k0, k1, k2, k3, k4, k5, k6, k7, k8, k9]
def interned : List (Array UInt16 × Addr) := []
def slotsUsed : Nat := 46
def theMethod : MethodId := ⟨1, 2⟩
def args0 : Array Value := #[.int 5]
def aboutOver (below : List Frame) : State where
  vm := { classes := classes, interned := interned.toArray }
  heap := heap
  slotsUsed := slotsUsed
  threads := #[{ frames := .invoking theMethod args0 :: below }]
def below0 : List Frame := [.native { method := ⟨0, 0⟩, args := #[] }]
def about1 : State := aboutOver below0
def p0 : Program := .bare "" "" ""
def e0 : Env := launch0.env 0 0 0
theorem w_frames : about1.frames = Frame.invoking theMethod args0 :: below0 := rfl
set_option maxRecDepth 65536 in
theorem w_args : argsFit about1.vm theMethod args0 = true := by decide +kernel
set_option maxRecDepth 65536 in
theorem w_heap : heapFits about1 = true := by decide +kernel
set_option maxRecDepth 65536 in
theorem w_runnable : about1.curStatus? = some .runnable := by decide +kernel
set_option maxRecDepth 65536 in
theorem w_alone : about1.alone = true := by decide +kernel
set_option maxRecDepth 65536 in
theorem w_named : about1.methodNamed? x = some theMethod := by decide +kernel
set_option maxRecDepth 65536 in
theorem w_hears : about1.hears theMethod below0 = true := by decide +kernel
set_option maxRecDepth 65536 in
theorem w_ripe : about1.ripe theMethod args0 below0 = true := by decide +kernel
theorem w_running : about1.status = .running := rfl
set_option maxRecDepth 65536 in
theorem w_room : about1.hasRoom e0.platform room_1 = true :=
  launch0.hasRoom_least _ room_1 (by decide +kernel) (by decide +kernel) (by decide +kernel) (by decide +kernel) (by decide +kernel) (by decide +kernel)
theorem allAtoms_all (ts : List Jvm.Cond) (a : Array Jvm.Value) (st : Jvm.State) : (allAtoms ts).before a st = ts.all (fun c => c.before a st) := by
  induction ts with
  | nil => rfl
  | cons c t ih =>
    show (Jvm.Cond.and c (allAtoms t)).before a st = _
    rw [Jvm.Cond.before_and, ih, List.all_cons]
def words1 : List Jvm.Cond := Jvm.Cond.code x code maxLocals ret :: tables_1
/-- a 'code' word, met by the world's own term for the bytes: nothing is compared byte by byte -/
theorem code_word {y : MethodName} {bytes : ByteArray} {mx : Nat} {rt : Option FieldType} {a : Array Value} {s : State} {m : MethodId} {meth : Method} {c : Code} (h1 : s.methodNamed? y = some m) (h2 : s.vm.method? m = some meth) (h3 : meth.code = some c) (h4 : c.code = bytes)
    (h5 : (c.maxLocals == mx && c.exceptionTable.isEmpty && decide (c.maxStack ≤ mostOperands) && decide (meth.sig.returnType = rt) && !meth.locks && decide (parseMethodDescriptor y.desc = some meth.sig)) = true) : (Jvm.Cond.code y bytes mx rt).before a s = true := by
  simp only [Bool.and_eq_true, beq_iff_eq, Bool.not_eq_true', decide_eq_true_eq] at h5
  obtain ⟨⟨⟨⟨⟨g1, g2⟩, g3⟩, g4⟩, g5⟩, g6⟩ := h5
  simp [Cond.before, Cond.holds, Cond.value, h1, h2, h3, h4, g1, g2, g3, g4, g5, g6]
def isCode : Jvm.Cond → Bool
  | .code _ _ _ _ => true
  | _ => false
theorem all_split {L : List Jvm.Cond} {P : Jvm.Cond → Bool} (h1 : L.all (fun c => isCode c || P c) = true) (h2 : ∀ c ∈ L.filter isCode, P c = true) : L.all P = true := by
  refine List.all_eq_true.mpr fun c hc => ?_
  have h := List.all_eq_true.mp h1 c hc
  rcases Bool.eq_false_or_eq_true (isCode c) with hi | hi
  · exact h2 c (List.mem_filter.mpr ⟨hc, hi⟩)
  · simpa [hi] using h
set_option maxRecDepth 65536 in
theorem w_c0 : (Jvm.Cond.code x code maxLocals ret).before args0 about1 = true := code_word (m := ⟨1, 2⟩) (meth := k1m2) (c := k1c2) (by decide +kernel) rfl rfl rfl (by decide +kernel)
set_option maxRecDepth 65536 in
theorem w_c1 : (Jvm.Cond.code ({ cls := "com/example/accrual/accrual/CompoundingIsPeriodicPinLaw", name := "pick", desc := "(I)Lcom/example/accrual/accrual/Compounding;" } : Jvm.MethodName) method_2_code (1 : Nat) (Option.some (Jvm.ClassFile.FieldType.object "com/example/accrual/accrual/Compounding"))).before args0 about1 = true := code_word (m := ⟨1, 1⟩) (meth := k1m1) (c := k1c1) (by decide +kernel) rfl rfl rfl (by decide +kernel)
set_option maxRecDepth 65536 in
theorem w_c2 : (Jvm.Cond.code ({ cls := "com/example/accrual/accrual/Compounding", name := "isPeriodic", desc := "()Z" } : Jvm.MethodName) prog_3_method_5_code (1 : Nat) (Option.some Jvm.ClassFile.FieldType.boolean)).before args0 about1 = true := code_word (m := ⟨6, 0⟩) (meth := k6m0) (c := k6c0) (by decide +kernel) rfl rfl rfl (by decide +kernel)
def codes1 : List Jvm.Cond := [Jvm.Cond.code x code maxLocals ret, Jvm.Cond.code ({ cls := "com/example/accrual/accrual/CompoundingIsPeriodicPinLaw", name := "pick", desc := "(I)Lcom/example/accrual/accrual/Compounding;" } : Jvm.MethodName) method_2_code (1 : Nat) (Option.some (Jvm.ClassFile.FieldType.object "com/example/accrual/accrual/Compounding")), Jvm.Cond.code ({ cls := "com/example/accrual/accrual/Compounding", name := "isPeriodic", desc := "()Z" } : Jvm.MethodName) prog_3_method_5_code (1 : Nat) (Option.some Jvm.ClassFile.FieldType.boolean)]
set_option maxRecDepth 65536 in
theorem codes_eq : words1.filter isCode = codes1 := rfl
theorem w_codes : ∀ c ∈ words1.filter isCode, c.before args0 about1 = true := by
  rw [codes_eq]
  intro c hc
  simp only [codes1, List.mem_cons, List.not_mem_nil, or_false] at hc
  rcases hc with rfl | rfl | rfl
  · exact w_c0
  · exact w_c1
  · exact w_c2
set_option maxRecDepth 65536 in
theorem w_t1 : (words1.take 24).all (fun c => isCode c || c.before args0 about1) = true := by decide +kernel
set_option maxRecDepth 65536 in
theorem w_t2 : (words1.drop 24).all (fun c => isCode c || c.before args0 about1) = true := by decide +kernel
theorem w_tables : (allAtoms (Jvm.Cond.code x code maxLocals ret :: tables_1)).before args0 about1 = true := by
  rw [allAtoms_all]
  show words1.all (fun c => c.before args0 about1) = true
  refine all_split ?_ w_codes
  rw [← List.take_append_drop 24 words1, List.all_append, w_t1, w_t2]
  rfl
set_option maxRecDepth 65536 in
theorem w_case : (Jvm.Cond.and given_1 narrow_1).before args0 about1 = true := by decide +kernel
theorem w_applies : (headSpec (Jvm.Cond.code x code maxLocals ret :: tables_1) room_1).applies x e0.platform about1 = true :=
  (Spec.applies_iff w_frames).mpr ⟨w_running, w_runnable, w_alone, w_named, w_hears, w_ripe, w_room, w_tables⟩
theorem atStart : AtStart classFile x code maxLocals ret World_1 tables_1 room_1 Calls_1 rest_1 Pre_1 launch0 p0 e0 about1 theMethod args0 below0 :=
  ⟨lists_1, trivial, launch0.admits_env _ _ _, launch0.least_env, fairChoices_fair.cas, fairChoices_fair.clock, w_frames, w_args, w_heap, w_applies, trivial, trivial, w_case⟩
end start1
theorem witness_1 : WitnessClaimed_1 := ⟨start1.p0, start1.e0, start1.about1, start1.theMethod, start1.args0, start1.below0, start1.atStart⟩
end Jvm.Pilot.@@N@@
