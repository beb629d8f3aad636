import JvmDerived
import JvmDerived.Pilot.@@N@@Statement
import JvmDerived.Pilot.@@N@@Code
set_option linter.unusedVariables false
set_option linter.unusedSimpArgs false
namespace Jvm.Pilot.@@N@@
open Jvm Jvm.ClassFile Sem Op Lib Jvm.Free Jvm.Stand Jvm.LawKit Jvm.RoadKit Bundle Jvm.Pilot.@@N@@.Jvm.D
def own_End (p : Program) (e : Env) (below : List Frame) (G : Outcome → State → Prop) (T : State) : Prop := ∃ s₂ o, Steps p.tables e below T s₂ ∧ s₂.status = .running ∧ Ended s₂ below o ∧ G o s₂
theorem own_by {p : Program} {e : Env} {below : List Frame} {G : Outcome → State → Prop} {T T' : State} (h : ∀ t, Steps p.tables e below T' t → Steps p.tables e below T t) (k : own_End p e below G T') : own_End p e below G T := by
  obtain ⟨s₂, o, h1, h2⟩ := k
  exact ⟨s₂, o, h _ h1, h2⟩
abbrev own_Met (l : Launch) (Z : State) (y : MethodName) (bytes : ByteArray) (maxL : Nat) (rt : Option FieldType) (ws : List Jvm.Cond) (rm : Room) (as' : Array Value) (h0 : Heap) (Q : Option Value → Heap → List Loc → Prop) : Prop :=
  MetFree l y (head1 (Jvm.Cond.code y bytes maxL rt :: ws) rm) (fun a U => a = as' ∧ Z.Warmed39 U.vm ∧ U.heap = h0) (fun _ _ _ _ _ => True) (fun _ U o U' => ∃ v L, o = .returned v ∧ Q v U'.heap L ∧ FrameEnd U o U' L rm.cells rm.slots)
theorem own_back {p : Program} {l : Launch} {e : Env} {R : Room} {s Z : State} {args a0 : Array Value} {below : List Frame} {h : Heap} {y : MethodName} {bytes : ByteArray} {maxL : Nat} {rt : Option FieldType} {rm : Room} {len W : Nat} {as' : Array Value} {Q : Option Value → Heap → List Loc → Prop}
    (hM : own_Met l Z y bytes maxL rt [] rm as' h Q) (hZ : Z.Warmed39 s.vm) (wc : (Cond.code y bytes maxL rt).before a0 Z = true) (wz : (Cond.initialized y.cls).before a0 Z = true) (hf : rm.frames + 1 ≤ R.frames) (hl : W + (maxL + 11) + rm.locals ≤ R.locals) :
    Back l R p e below s args y len W (fun A a => a = as' ∧ A.U.heap = h ∧ A.cells + rm.cells ≤ R.cells ∧ A.slots + rm.slots ≤ R.slots) (fun A _ v B => ∃ L, Q v B.U.heap L ∧ B.locs = A.locs ++ L ∧ B.cells = A.cells + rm.cells ∧ B.slots = A.slots + rm.slots) :=
  backOf (Q := Q) hM hZ wc wz hf hl
theorem own_intEq {t : Term} {k : Int32} {args : Array Value} {s : State} (h : (Cond.eq t (Term.int k)).value args s none s [] = some true) : t.eval args s none [] s = some (.int k) := by
  simp only [Cond.value, Term.eval] at h
  cases ht : t.eval args s none [] s with
  | none => simp [ht] at h
  | some x => cases x <;> simp [ht] at h ⊢; exact h
theorem own_mod (k d : Int32) (D : Int) (hd : d.toInt = D) (hD : 0 < D) : 0 ≤ ((k &&& (2147483647 : Int32)) % d).toInt ∧ ((k &&& (2147483647 : Int32)) % d).toInt < D := by
  have h1 : (k &&& (2147483647 : Int32)).toInt = k.toInt % (2 ^ 31 : Nat) := c_mask k (2147483647 : Int32) 31 (by decide) (by decide)
  have h2 := (c_irem (k &&& (2147483647 : Int32)) d D hd).1 (by rw [h1]; omega)
  rw [h2]; exact ⟨Int.emod_nonneg _ (by omega), Int.emod_lt_of_pos _ hD⟩
def own_T (Z : State) (L R : Int32) (a : Addr) : Prop := Exa Z Z.heap a "com/example/referee/referee/associativity/RuleType" ∧ Fld Z Z.heap a "com/example/referee/referee/associativity/RuleType" "onLeft" "Z" (.int L) ∧ Fld Z Z.heap a "com/example/referee/referee/associativity/RuleType" "onRight" "Z" (.int R)
def own_R (i L R : Int32) : Prop := (¬ i < 6 ∧ L = 1 ∧ R = 1) ∨ (i < 6 ∧ L = 0) ∨ (i < 6 ∧ L = 1 ∧ R = 0)
theorem own_last {i : Int32} (h : 0 ≤ i.toInt) (h0 : ¬ i = 0) (h1 : ¬ i = 1) (h2 : ¬ i = 2) (h3 : ¬ i = 3) (h4 : ¬ i = 4) (h5 : ¬ i = 5) : own_R i 1 1 := by
  refine Or.inl ⟨fun h6 => ?_, rfl, rfl⟩
  rw [Int32.lt_iff_toInt_lt] at h6
  rw [← Int32.toInt_inj] at h0 h1 h2 h3 h4 h5
  have a0 : (0 : Int32).toInt = 0 := rfl
  have a1 : (1 : Int32).toInt = 1 := rfl
  have a2 : (2 : Int32).toInt = 2 := rfl
  have a3 : (3 : Int32).toInt = 3 := rfl
  have a4 : (4 : Int32).toInt = 4 := rfl
  have a5 : (5 : Int32).toInt = 5 := rfl
  have a6 : (6 : Int32).toInt = 6 := rfl
  omega
theorem own_d_method_2_0 : decode method_2_code 0 = .ok (.iload_n 0, 1) := by decide +kernel
theorem own_d_method_2_1 : decode method_2_code 1 = .ok (.ifCond .ne 7, 3) := by decide +kernel
theorem own_d_method_2_4 : decode method_2_code 4 = .ok (.getstatic 7, 3) := by decide +kernel
theorem own_d_method_2_7 : decode method_2_code 7 = .ok (.areturn, 1) := by decide +kernel
theorem own_d_method_2_8 : decode method_2_code 8 = .ok (.iload_n 0, 1) := by decide +kernel
theorem own_d_method_2_9 : decode method_2_code 9 = .ok (.iconst 1, 1) := by decide +kernel
theorem own_d_method_2_10 : decode method_2_code 10 = .ok (.if_icmp .ne 7, 3) := by decide +kernel
theorem own_d_method_2_13 : decode method_2_code 13 = .ok (.getstatic 13, 3) := by decide +kernel
theorem own_d_method_2_16 : decode method_2_code 16 = .ok (.areturn, 1) := by decide +kernel
theorem own_d_method_2_17 : decode method_2_code 17 = .ok (.iload_n 0, 1) := by decide +kernel
theorem own_d_method_2_18 : decode method_2_code 18 = .ok (.iconst 2, 1) := by decide +kernel
theorem own_d_method_2_19 : decode method_2_code 19 = .ok (.if_icmp .ne 7, 3) := by decide +kernel
theorem own_d_method_2_22 : decode method_2_code 22 = .ok (.getstatic 16, 3) := by decide +kernel
theorem own_d_method_2_25 : decode method_2_code 25 = .ok (.areturn, 1) := by decide +kernel
theorem own_d_method_2_26 : decode method_2_code 26 = .ok (.iload_n 0, 1) := by decide +kernel
theorem own_d_method_2_27 : decode method_2_code 27 = .ok (.iconst 3, 1) := by decide +kernel
theorem own_d_method_2_28 : decode method_2_code 28 = .ok (.if_icmp .ne 7, 3) := by decide +kernel
theorem own_d_method_2_31 : decode method_2_code 31 = .ok (.getstatic 19, 3) := by decide +kernel
theorem own_d_method_2_34 : decode method_2_code 34 = .ok (.areturn, 1) := by decide +kernel
theorem own_d_method_2_35 : decode method_2_code 35 = .ok (.iload_n 0, 1) := by decide +kernel
theorem own_d_method_2_36 : decode method_2_code 36 = .ok (.iconst 4, 1) := by decide +kernel
theorem own_d_method_2_37 : decode method_2_code 37 = .ok (.if_icmp .ne 7, 3) := by decide +kernel
theorem own_d_method_2_40 : decode method_2_code 40 = .ok (.getstatic 22, 3) := by decide +kernel
theorem own_d_method_2_43 : decode method_2_code 43 = .ok (.areturn, 1) := by decide +kernel
theorem own_d_method_2_44 : decode method_2_code 44 = .ok (.iload_n 0, 1) := by decide +kernel
theorem own_d_method_2_45 : decode method_2_code 45 = .ok (.iconst 5, 1) := by decide +kernel
theorem own_d_method_2_46 : decode method_2_code 46 = .ok (.if_icmp .ne 7, 3) := by decide +kernel
theorem own_d_method_2_49 : decode method_2_code 49 = .ok (.getstatic 25, 3) := by decide +kernel
theorem own_d_method_2_52 : decode method_2_code 52 = .ok (.areturn, 1) := by decide +kernel
theorem own_d_method_2_53 : decode method_2_code 53 = .ok (.iload_n 0, 1) := by decide +kernel
theorem own_d_method_2_54 : decode method_2_code 54 = .ok (.bipush 6, 2) := by decide +kernel
theorem own_d_method_2_56 : decode method_2_code 56 = .ok (.if_icmp .ne 7, 3) := by decide +kernel
theorem own_d_method_2_59 : decode method_2_code 59 = .ok (.getstatic 28, 3) := by decide +kernel
theorem own_d_method_2_62 : decode method_2_code 62 = .ok (.areturn, 1) := by decide +kernel
theorem own_d_method_2_63 : decode method_2_code 63 = .ok (.iload_n 0, 1) := by decide +kernel
theorem own_d_method_2_64 : decode method_2_code 64 = .ok (.bipush 7, 2) := by decide +kernel
theorem own_d_method_2_66 : decode method_2_code 66 = .ok (.if_icmp .ne 7, 3) := by decide +kernel
theorem own_d_method_2_69 : decode method_2_code 69 = .ok (.getstatic 31, 3) := by decide +kernel
theorem own_d_method_2_72 : decode method_2_code 72 = .ok (.areturn, 1) := by decide +kernel
theorem own_d_method_2_73 : decode method_2_code 73 = .ok (.getstatic 34, 3) := by decide +kernel
theorem own_d_method_2_76 : decode method_2_code 76 = .ok (.areturn, 1) := by decide +kernel
theorem own_d_prog_22_method_6_0 : decode prog_22_method_6_code 0 = .ok (.aload_n 0, 1) := by decide +kernel
theorem own_d_prog_22_method_6_1 : decode prog_22_method_6_code 1 = .ok (.getfield 50, 3) := by decide +kernel
theorem own_d_prog_22_method_6_4 : decode prog_22_method_6_code 4 = .ok (.ifCond .eq 14, 3) := by decide +kernel
theorem own_d_prog_22_method_6_7 : decode prog_22_method_6_code 7 = .ok (.aload_n 0, 1) := by decide +kernel
theorem own_d_prog_22_method_6_8 : decode prog_22_method_6_code 8 = .ok (.getfield 54, 3) := by decide +kernel
theorem own_d_prog_22_method_6_11 : decode prog_22_method_6_code 11 = .ok (.ifCond .eq 7, 3) := by decide +kernel
theorem own_d_prog_22_method_6_14 : decode prog_22_method_6_code 14 = .ok (.iconst 1, 1) := by decide +kernel
theorem own_d_prog_22_method_6_15 : decode prog_22_method_6_code 15 = .ok (.goto 4, 3) := by decide +kernel
theorem own_d_prog_22_method_6_18 : decode prog_22_method_6_code 18 = .ok (.iconst 0, 1) := by decide +kernel
theorem own_d_prog_22_method_6_19 : decode prog_22_method_6_code 19 = .ok (.ireturn, 1) := by decide +kernel
theorem own_pd0 : parseMethodDescriptor "(I)Lcom/example/referee/referee/associativity/RuleType;" = some ⟨[.int], some (.object "com/example/referee/referee/associativity/RuleType")⟩ := by decide +kernel
theorem own_pd1 : parseMethodDescriptor "()Z" = some ⟨[], some .boolean⟩ := by decide +kernel
theorem own_pn0 : plainName "com/example/referee/referee/associativity/RuleTypePairOfLabelsPinLaw" = true := by first | (simp [plainName, overriddenIn]; done) | decide +kernel
theorem own_pn1 : plainName "com/example/referee/referee/associativity/RuleType" = true := by first | (simp [plainName, overriddenIn]; done) | decide +kernel
set_option maxRecDepth 65536 in
set_option maxHeartbeats 40000000 in
theorem own_pick (l : Launch) (Z : State) (a0 : Array Value) (hw : ∀ d ∈ tables_1, d.before a0 Z = true) (ws : List Jvm.Cond) (i1 : Int32) (u0 u1 u2 u3 u4 u5 u6 u7 u8 : Addr) (h0 : Heap) (n0 : Nat) (O : Ext Z.heap h0) (S_u0 : Sta Z Z.heap "com/example/referee/referee/associativity/RuleType" "LEFT_CONFORMING" "Lcom/example/referee/referee/associativity/RuleType;" (.ref u0)) (S_u1 : Sta Z Z.heap "com/example/referee/referee/associativity/RuleType" "RIGHT_CONFORMING" "Lcom/example/referee/referee/associativity/RuleType;" (.ref u1)) (S_u2 : Sta Z Z.heap "com/example/referee/referee/associativity/RuleType" "LEFT_CHOICE" "Lcom/example/referee/referee/associativity/RuleType;" (.ref u2)) (S_u3 : Sta Z Z.heap "com/example/referee/referee/associativity/RuleType" "RIGHT_CHOICE" "Lcom/example/referee/referee/associativity/RuleType;" (.ref u3)) (S_u4 : Sta Z Z.heap "com/example/referee/referee/associativity/RuleType" "LEFT_AXIOM" "Lcom/example/referee/referee/associativity/RuleType;" (.ref u4)) (S_u5 : Sta Z Z.heap "com/example/referee/referee/associativity/RuleType" "RIGHT_AXIOM" "Lcom/example/referee/referee/associativity/RuleType;" (.ref u5)) (S_u6 : Sta Z Z.heap "com/example/referee/referee/associativity/RuleType" "COMMUNICATING" "Lcom/example/referee/referee/associativity/RuleType;" (.ref u6)) (S_u7 : Sta Z Z.heap "com/example/referee/referee/associativity/RuleType" "LEFT_CHOICE_WITH_TEST" "Lcom/example/referee/referee/associativity/RuleType;" (.ref u7)) (S_u8 : Sta Z Z.heap "com/example/referee/referee/associativity/RuleType" "RIGHT_CHOICE_WITH_TEST" "Lcom/example/referee/referee/associativity/RuleType;" (.ref u8)) (t_u0 : own_T Z 1 0 u0) (t_u1 : own_T Z 0 1 u1) (t_u2 : own_T Z 1 0 u2) (t_u3 : own_T Z 0 1 u3) (t_u4 : own_T Z 0 0 u4) (t_u5 : own_T Z 0 0 u5) (t_u6 : own_T Z 1 1 u6) (t_u7 : own_T Z 1 1 u7) (t_u8 : own_T Z 1 1 u8) (hi : 0 ≤ i1.toInt ∧ i1.toInt < 9) :
    own_Met l Z (⟨"com/example/referee/referee/associativity/RuleTypePairOfLabelsPinLaw", "pick", "(I)Lcom/example/referee/referee/associativity/RuleType;"⟩ : MethodName) method_2_code 1 (some (.object "com/example/referee/referee/associativity/RuleType")) ws ({ frames := 0, cells := 0, slots := 0, locals := 0 } : Room) #[(.int i1)] h0 (fun v h L => ∃ (a : Addr) (lf rg : Int32), v = some (.ref a) ∧ own_T Z lf rg a ∧ own_R i1 lf rg ∧ Fr n0 L ∧ h = h0) := by
  refine MetFree.of_bodySF (plainFor_of_name own_pn0) hisR ?_
  intro p e s m args below meth c s₁ Bd hml0 hP hK
  obtain ⟨rfl, hZ, hh⟩ := hP
  have hx := Bd.exec
  have hby := Bd.bytes
  have hml : c.maxLocals = 1 := hml0
  have hown : s.vm.findClass "com/example/referee/referee/associativity/RuleTypePairOfLabelsPinLaw" = some m.cls := findClass_of_methodNamed Bd.named
  have hnm := (name_of_methodNamed Bd.named Bd.method).1
  have X0 : Stand p l e ({ frames := 0, cells := 0, slots := 0, locals := 0 } : Room) s m #[(.int i1)] below meth c s₁ [] 0 0 := Stand.of_body Bd
  have e0 : s₁.heap = h0 := by rw [← hh, Bd.state]; rfl
  have N0 := Fr.nil n0
  have ef : entryFrame m #[(.int i1)] 1 = mkF m 0 #[.val (.int i1)] [] := by first | (simp [entryFrame, mkF, argsToLocals, Value.category, maxLocals]; done) | rfl
  show own_End p e below _ (s₁.setTop (entryFrame m #[(.int i1)] 1))
  refine own_by (fun _ k => castTop ef k) ?_
  show own_End p e below _ (s₁.setTop (mkF m 0 #[.val (.int i1)] []))
  refine own_by (fun _ k => XS.iloadN X0.here hx rfl (hb hby own_d_method_2_0) rfl k) ?_
  show own_End p e below _ (s₁.setTop (mkF m 1 #[.val (.int i1)] [(.int i1)]))
  rcases Decidable.em (i1 = (0 : Int32)) with hc1_1 | hc1_1
  · -- 1 True
    refine own_by (fun _ k => XS.ifNo X0.here hx rfl (hb hby own_d_method_2_1) rfl ((if0 _ _).trans (teq hc1_1).2) k) ?_
    show own_End p e below _ (s₁.setTop (mkF m 4 #[.val (.int i1)] []))
    obtain ⟨T2, X2, e2, st2⟩ := getS2 X0 hx hZ hown (host := "") (Or.inl (hw _ (List.mem_of_getElem? (i := 5) rfl))) Via.refl e0 (S_u0.ext O) (g := (mkF m 4 #[.val (.int i1)] [])) rfl (hb hby own_d_method_2_4)
    refine own_by st2 ?_
    show own_End p e below _ (T2.setTop (mkF m 7 #[.val (.int i1)] [(.ref u0)]))
    obtain ⟨fs, hr, hrun, hended, hW, hsame⟩ := X2.leave (v := (some (.ref u0))) (fun h => by rw [Bd.returns] at h; cases h)
    refine ⟨_, _, retOut X2 hx Bd.returns rfl (Or.inr (Or.inr (Or.inr (Or.inr ⟨rfl, rfl, rfl⟩)))) (hb hby own_d_method_2_7) hr, hrun, hended, _, _, rfl, ?_, ⟨_, rfl⟩, hW, hsame.mono (by decide) (by decide)⟩
    exact ⟨_, _, _, rfl, t_u0, by subst hc1_1; unfold own_R; decide, N0, e2⟩
  · -- 1 False
    refine own_by (fun _ k => XS.ifYes X0.here hx rfl (pc0 := 1) (pc' := 8) rfl (hb hby own_d_method_2_1) rfl ((if0 _ _).trans (feq hc1_1).2) (by decide) (by decide) k) ?_
    show own_End p e below _ (s₁.setTop (mkF m 8 #[.val (.int i1)] []))
    refine own_by (fun _ k => XS.iloadN X0.here hx rfl (hb hby own_d_method_2_8) rfl k) ?_
    show own_End p e below _ (s₁.setTop (mkF m 9 #[.val (.int i1)] [(.int i1)]))
    refine own_by (fun _ k => XS.iconst X0.here hx rfl (hb hby own_d_method_2_9) k) ?_
    show own_End p e below _ (s₁.setTop (mkF m 10 #[.val (.int i1)] [(.int (1 : Int32)), (.int i1)]))
    rcases Decidable.em (i1 = (1 : Int32)) with hc10_3 | hc10_3
    · -- 10 True
      refine own_by (fun _ k => XS.icmpNo X0.here hx rfl (hb hby own_d_method_2_10) rfl (teq hc10_3).2 k) ?_
      show own_End p e below _ (s₁.setTop (mkF m 13 #[.val (.int i1)] []))
      obtain ⟨T4, X4, e4, st4⟩ := getS2 X0 hx hZ hown (host := "") (Or.inl (hw _ (List.mem_of_getElem? (i := 21) rfl))) Via.refl e0 (S_u1.ext O) (g := (mkF m 13 #[.val (.int i1)] [])) rfl (hb hby own_d_method_2_13)
      refine own_by st4 ?_
      show own_End p e below _ (T4.setTop (mkF m 16 #[.val (.int i1)] [(.ref u1)]))
      obtain ⟨fs, hr, hrun, hended, hW, hsame⟩ := X4.leave (v := (some (.ref u1))) (fun h => by rw [Bd.returns] at h; cases h)
      refine ⟨_, _, retOut X4 hx Bd.returns rfl (Or.inr (Or.inr (Or.inr (Or.inr ⟨rfl, rfl, rfl⟩)))) (hb hby own_d_method_2_16) hr, hrun, hended, _, _, rfl, ?_, ⟨_, rfl⟩, hW, hsame.mono (by decide) (by decide)⟩
      exact ⟨_, _, _, rfl, t_u1, by subst hc10_3; unfold own_R; decide, N0, e4⟩
    · -- 10 False
      refine own_by (fun _ k => XS.icmpYes X0.here hx rfl (pc0 := 10) (pc' := 17) rfl (hb hby own_d_method_2_10) rfl (feq hc10_3).2 (by decide) (by decide) k) ?_
      show own_End p e below _ (s₁.setTop (mkF m 17 #[.val (.int i1)] []))
      refine own_by (fun _ k => XS.iloadN X0.here hx rfl (hb hby own_d_method_2_17) rfl k) ?_
      show own_End p e below _ (s₁.setTop (mkF m 18 #[.val (.int i1)] [(.int i1)]))
      refine own_by (fun _ k => XS.iconst X0.here hx rfl (hb hby own_d_method_2_18) k) ?_
      show own_End p e below _ (s₁.setTop (mkF m 19 #[.val (.int i1)] [(.int (2 : Int32)), (.int i1)]))
      rcases Decidable.em (i1 = (2 : Int32)) with hc19_5 | hc19_5
      · -- 19 True
        refine own_by (fun _ k => XS.icmpNo X0.here hx rfl (hb hby own_d_method_2_19) rfl (teq hc19_5).2 k) ?_
        show own_End p e below _ (s₁.setTop (mkF m 22 #[.val (.int i1)] []))
        obtain ⟨T6, X6, e6, st6⟩ := getS2 X0 hx hZ hown (host := "") (Or.inl (hw _ (List.mem_of_getElem? (i := 19) rfl))) Via.refl e0 (S_u2.ext O) (g := (mkF m 22 #[.val (.int i1)] [])) rfl (hb hby own_d_method_2_22)
        refine own_by st6 ?_
        show own_End p e below _ (T6.setTop (mkF m 25 #[.val (.int i1)] [(.ref u2)]))
        obtain ⟨fs, hr, hrun, hended, hW, hsame⟩ := X6.leave (v := (some (.ref u2))) (fun h => by rw [Bd.returns] at h; cases h)
        refine ⟨_, _, retOut X6 hx Bd.returns rfl (Or.inr (Or.inr (Or.inr (Or.inr ⟨rfl, rfl, rfl⟩)))) (hb hby own_d_method_2_25) hr, hrun, hended, _, _, rfl, ?_, ⟨_, rfl⟩, hW, hsame.mono (by decide) (by decide)⟩
        exact ⟨_, _, _, rfl, t_u2, by subst hc19_5; unfold own_R; decide, N0, e6⟩
      · -- 19 False
        refine own_by (fun _ k => XS.icmpYes X0.here hx rfl (pc0 := 19) (pc' := 26) rfl (hb hby own_d_method_2_19) rfl (feq hc19_5).2 (by decide) (by decide) k) ?_
        show own_End p e below _ (s₁.setTop (mkF m 26 #[.val (.int i1)] []))
        refine own_by (fun _ k => XS.iloadN X0.here hx rfl (hb hby own_d_method_2_26) rfl k) ?_
        show own_End p e below _ (s₁.setTop (mkF m 27 #[.val (.int i1)] [(.int i1)]))
        refine own_by (fun _ k => XS.iconst X0.here hx rfl (hb hby own_d_method_2_27) k) ?_
        show own_End p e below _ (s₁.setTop (mkF m 28 #[.val (.int i1)] [(.int (3 : Int32)), (.int i1)]))
        rcases Decidable.em (i1 = (3 : Int32)) with hc28_7 | hc28_7
        · -- 28 True
          refine own_by (fun _ k => XS.icmpNo X0.here hx rfl (hb hby own_d_method_2_28) rfl (teq hc28_7).2 k) ?_
          show own_End p e below _ (s₁.setTop (mkF m 31 #[.val (.int i1)] []))
          obtain ⟨T8, X8, e8, st8⟩ := getS2 X0 hx hZ hown (host := "") (Or.inl (hw _ (List.mem_of_getElem? (i := 17) rfl))) Via.refl e0 (S_u3.ext O) (g := (mkF m 31 #[.val (.int i1)] [])) rfl (hb hby own_d_method_2_31)
          refine own_by st8 ?_
          show own_End p e below _ (T8.setTop (mkF m 34 #[.val (.int i1)] [(.ref u3)]))
          obtain ⟨fs, hr, hrun, hended, hW, hsame⟩ := X8.leave (v := (some (.ref u3))) (fun h => by rw [Bd.returns] at h; cases h)
          refine ⟨_, _, retOut X8 hx Bd.returns rfl (Or.inr (Or.inr (Or.inr (Or.inr ⟨rfl, rfl, rfl⟩)))) (hb hby own_d_method_2_34) hr, hrun, hended, _, _, rfl, ?_, ⟨_, rfl⟩, hW, hsame.mono (by decide) (by decide)⟩
          exact ⟨_, _, _, rfl, t_u3, by subst hc28_7; unfold own_R; decide, N0, e8⟩
        · -- 28 False
          refine own_by (fun _ k => XS.icmpYes X0.here hx rfl (pc0 := 28) (pc' := 35) rfl (hb hby own_d_method_2_28) rfl (feq hc28_7).2 (by decide) (by decide) k) ?_
          show own_End p e below _ (s₁.setTop (mkF m 35 #[.val (.int i1)] []))
          refine own_by (fun _ k => XS.iloadN X0.here hx rfl (hb hby own_d_method_2_35) rfl k) ?_
          show own_End p e below _ (s₁.setTop (mkF m 36 #[.val (.int i1)] [(.int i1)]))
          refine own_by (fun _ k => XS.iconst X0.here hx rfl (hb hby own_d_method_2_36) k) ?_
          show own_End p e below _ (s₁.setTop (mkF m 37 #[.val (.int i1)] [(.int (4 : Int32)), (.int i1)]))
          rcases Decidable.em (i1 = (4 : Int32)) with hc37_9 | hc37_9
          · -- 37 True
            refine own_by (fun _ k => XS.icmpNo X0.here hx rfl (hb hby own_d_method_2_37) rfl (teq hc37_9).2 k) ?_
            show own_End p e below _ (s₁.setTop (mkF m 40 #[.val (.int i1)] []))
            obtain ⟨T10, X10, e10, st10⟩ := getS2 X0 hx hZ hown (host := "") (Or.inl (hw _ (List.mem_of_getElem? (i := 25) rfl))) Via.refl e0 (S_u4.ext O) (g := (mkF m 40 #[.val (.int i1)] [])) rfl (hb hby own_d_method_2_40)
            refine own_by st10 ?_
            show own_End p e below _ (T10.setTop (mkF m 43 #[.val (.int i1)] [(.ref u4)]))
            obtain ⟨fs, hr, hrun, hended, hW, hsame⟩ := X10.leave (v := (some (.ref u4))) (fun h => by rw [Bd.returns] at h; cases h)
            refine ⟨_, _, retOut X10 hx Bd.returns rfl (Or.inr (Or.inr (Or.inr (Or.inr ⟨rfl, rfl, rfl⟩)))) (hb hby own_d_method_2_43) hr, hrun, hended, _, _, rfl, ?_, ⟨_, rfl⟩, hW, hsame.mono (by decide) (by decide)⟩
            exact ⟨_, _, _, rfl, t_u4, by subst hc37_9; unfold own_R; decide, N0, e10⟩
          · -- 37 False
            refine own_by (fun _ k => XS.icmpYes X0.here hx rfl (pc0 := 37) (pc' := 44) rfl (hb hby own_d_method_2_37) rfl (feq hc37_9).2 (by decide) (by decide) k) ?_
            show own_End p e below _ (s₁.setTop (mkF m 44 #[.val (.int i1)] []))
            refine own_by (fun _ k => XS.iloadN X0.here hx rfl (hb hby own_d_method_2_44) rfl k) ?_
            show own_End p e below _ (s₁.setTop (mkF m 45 #[.val (.int i1)] [(.int i1)]))
            refine own_by (fun _ k => XS.iconst X0.here hx rfl (hb hby own_d_method_2_45) k) ?_
            show own_End p e below _ (s₁.setTop (mkF m 46 #[.val (.int i1)] [(.int (5 : Int32)), (.int i1)]))
            rcases Decidable.em (i1 = (5 : Int32)) with hc46_11 | hc46_11
            · -- 46 True
              refine own_by (fun _ k => XS.icmpNo X0.here hx rfl (hb hby own_d_method_2_46) rfl (teq hc46_11).2 k) ?_
              show own_End p e below _ (s₁.setTop (mkF m 49 #[.val (.int i1)] []))
              obtain ⟨T12, X12, e12, st12⟩ := getS2 X0 hx hZ hown (host := "") (Or.inl (hw _ (List.mem_of_getElem? (i := 31) rfl))) Via.refl e0 (S_u5.ext O) (g := (mkF m 49 #[.val (.int i1)] [])) rfl (hb hby own_d_method_2_49)
              refine own_by st12 ?_
              show own_End p e below _ (T12.setTop (mkF m 52 #[.val (.int i1)] [(.ref u5)]))
              obtain ⟨fs, hr, hrun, hended, hW, hsame⟩ := X12.leave (v := (some (.ref u5))) (fun h => by rw [Bd.returns] at h; cases h)
              refine ⟨_, _, retOut X12 hx Bd.returns rfl (Or.inr (Or.inr (Or.inr (Or.inr ⟨rfl, rfl, rfl⟩)))) (hb hby own_d_method_2_52) hr, hrun, hended, _, _, rfl, ?_, ⟨_, rfl⟩, hW, hsame.mono (by decide) (by decide)⟩
              exact ⟨_, _, _, rfl, t_u5, by subst hc46_11; unfold own_R; decide, N0, e12⟩
            · -- 46 False
              refine own_by (fun _ k => XS.icmpYes X0.here hx rfl (pc0 := 46) (pc' := 53) rfl (hb hby own_d_method_2_46) rfl (feq hc46_11).2 (by decide) (by decide) k) ?_
              show own_End p e below _ (s₁.setTop (mkF m 53 #[.val (.int i1)] []))
              refine own_by (fun _ k => XS.iloadN X0.here hx rfl (hb hby own_d_method_2_53) rfl k) ?_
              show own_End p e below _ (s₁.setTop (mkF m 54 #[.val (.int i1)] [(.int i1)]))
              refine own_by (fun _ k => XS.bipush X0.here hx rfl (hb hby own_d_method_2_54) k) ?_
              show own_End p e below _ (s₁.setTop (mkF m 56 #[.val (.int i1)] [(.int (6 : Int32)), (.int i1)]))
              rcases Decidable.em (i1 = (6 : Int32)) with hc56_13 | hc56_13
              · -- 56 True
                refine own_by (fun _ k => XS.icmpNo X0.here hx rfl (hb hby own_d_method_2_56) rfl (teq hc56_13).2 k) ?_
                show own_End p e below _ (s₁.setTop (mkF m 59 #[.val (.int i1)] []))
                obtain ⟨T14, X14, e14, st14⟩ := getS2 X0 hx hZ hown (host := "") (Or.inl (hw _ (List.mem_of_getElem? (i := 29) rfl))) Via.refl e0 (S_u6.ext O) (g := (mkF m 59 #[.val (.int i1)] [])) rfl (hb hby own_d_method_2_59)
                refine own_by st14 ?_
                show own_End p e below _ (T14.setTop (mkF m 62 #[.val (.int i1)] [(.ref u6)]))
                obtain ⟨fs, hr, hrun, hended, hW, hsame⟩ := X14.leave (v := (some (.ref u6))) (fun h => by rw [Bd.returns] at h; cases h)
                refine ⟨_, _, retOut X14 hx Bd.returns rfl (Or.inr (Or.inr (Or.inr (Or.inr ⟨rfl, rfl, rfl⟩)))) (hb hby own_d_method_2_62) hr, hrun, hended, _, _, rfl, ?_, ⟨_, rfl⟩, hW, hsame.mono (by decide) (by decide)⟩
                exact ⟨_, _, _, rfl, t_u6, by subst hc56_13; unfold own_R; decide, N0, e14⟩
              · -- 56 False
                refine own_by (fun _ k => XS.icmpYes X0.here hx rfl (pc0 := 56) (pc' := 63) rfl (hb hby own_d_method_2_56) rfl (feq hc56_13).2 (by decide) (by decide) k) ?_
                show own_End p e below _ (s₁.setTop (mkF m 63 #[.val (.int i1)] []))
                refine own_by (fun _ k => XS.iloadN X0.here hx rfl (hb hby own_d_method_2_63) rfl k) ?_
                show own_End p e below _ (s₁.setTop (mkF m 64 #[.val (.int i1)] [(.int i1)]))
                refine own_by (fun _ k => XS.bipush X0.here hx rfl (hb hby own_d_method_2_64) k) ?_
                show own_End p e below _ (s₁.setTop (mkF m 66 #[.val (.int i1)] [(.int (7 : Int32)), (.int i1)]))
                rcases Decidable.em (i1 = (7 : Int32)) with hc66_15 | hc66_15
                · -- 66 True
                  refine own_by (fun _ k => XS.icmpNo X0.here hx rfl (hb hby own_d_method_2_66) rfl (teq hc66_15).2 k) ?_
                  show own_End p e below _ (s₁.setTop (mkF m 69 #[.val (.int i1)] []))
                  obtain ⟨T16, X16, e16, st16⟩ := getS2 X0 hx hZ hown (host := "") (Or.inl (hw _ (List.mem_of_getElem? (i := 23) rfl))) Via.refl e0 (S_u7.ext O) (g := (mkF m 69 #[.val (.int i1)] [])) rfl (hb hby own_d_method_2_69)
                  refine own_by st16 ?_
                  show own_End p e below _ (T16.setTop (mkF m 72 #[.val (.int i1)] [(.ref u7)]))
                  obtain ⟨fs, hr, hrun, hended, hW, hsame⟩ := X16.leave (v := (some (.ref u7))) (fun h => by rw [Bd.returns] at h; cases h)
                  refine ⟨_, _, retOut X16 hx Bd.returns rfl (Or.inr (Or.inr (Or.inr (Or.inr ⟨rfl, rfl, rfl⟩)))) (hb hby own_d_method_2_72) hr, hrun, hended, _, _, rfl, ?_, ⟨_, rfl⟩, hW, hsame.mono (by decide) (by decide)⟩
                  exact ⟨_, _, _, rfl, t_u7, by subst hc66_15; unfold own_R; decide, N0, e16⟩
                · -- 66 False
                  refine own_by (fun _ k => XS.icmpYes X0.here hx rfl (pc0 := 66) (pc' := 73) rfl (hb hby own_d_method_2_66) rfl (feq hc66_15).2 (by decide) (by decide) k) ?_
                  show own_End p e below _ (s₁.setTop (mkF m 73 #[.val (.int i1)] []))
                  obtain ⟨T17, X17, e17, st17⟩ := getS2 X0 hx hZ hown (host := "") (Or.inl (hw _ (List.mem_of_getElem? (i := 27) rfl))) Via.refl e0 (S_u8.ext O) (g := (mkF m 73 #[.val (.int i1)] [])) rfl (hb hby own_d_method_2_73)
                  refine own_by st17 ?_
                  show own_End p e below _ (T17.setTop (mkF m 76 #[.val (.int i1)] [(.ref u8)]))
                  obtain ⟨fs, hr, hrun, hended, hW, hsame⟩ := X17.leave (v := (some (.ref u8))) (fun h => by rw [Bd.returns] at h; cases h)
                  refine ⟨_, _, retOut X17 hx Bd.returns rfl (Or.inr (Or.inr (Or.inr (Or.inr ⟨rfl, rfl, rfl⟩)))) (hb hby own_d_method_2_76) hr, hrun, hended, _, _, rfl, ?_, ⟨_, rfl⟩, hW, hsame.mono (by decide) (by decide)⟩
                  exact ⟨_, _, _, rfl, t_u8, own_last hi.1 hc1_1 hc10_3 hc19_5 hc28_7 hc37_9 hc46_11, N0, e17⟩
set_option maxRecDepth 65536 in
set_option maxHeartbeats 40000000 in
theorem own_pol (l : Launch) (Z : State) (a0 : Array Value) (hw : ∀ d ∈ tables_1, d.before a0 Z = true) (ws : List Jvm.Cond) (a1 : Addr) (lf rg r : Int32) (h0 : Heap) (n0 : Nat) (O : Ext Z.heap h0) (t_a : own_T Z lf rg a1) (hres : (¬ lf = 0 ∧ ¬ rg = 0 ∧ r = 1) ∨ ((lf = 0 ∨ rg = 0) ∧ r = 0)) :
    own_Met l Z (⟨"com/example/referee/referee/associativity/RuleType", "pairOfLabels", "()Z"⟩ : MethodName) prog_22_method_6_code 1 (some .boolean) ws ({ frames := 0, cells := 0, slots := 0, locals := 0 } : Room) #[(.ref a1)] h0 (fun v h L => v = some (.int r) ∧ Fr n0 L ∧ h = h0) := by
  refine MetFree.of_bodySF (plainFor_of_name own_pn1) hisR ?_
  intro p e s m args below meth c s₁ Bd hml0 hP hK
  obtain ⟨rfl, hZ, hh⟩ := hP
  have hx := Bd.exec
  have hby := Bd.bytes
  have hml : c.maxLocals = 1 := hml0
  have hown : s.vm.findClass "com/example/referee/referee/associativity/RuleType" = some m.cls := findClass_of_methodNamed Bd.named
  have hnm := (name_of_methodNamed Bd.named Bd.method).1
  have X0 : Stand p l e ({ frames := 0, cells := 0, slots := 0, locals := 0 } : Room) s m #[(.ref a1)] below meth c s₁ [] 0 0 := Stand.of_body Bd
  have e0 : s₁.heap = h0 := by rw [← hh, Bd.state]; rfl
  have N0 := Fr.nil n0
  have ef : entryFrame m #[(.ref a1)] 1 = mkF m 0 #[.val (.ref a1)] [] := by first | (simp [entryFrame, mkF, argsToLocals, Value.category, maxLocals]; done) | rfl
  show own_End p e below _ (s₁.setTop (entryFrame m #[(.ref a1)] 1))
  refine own_by (fun _ k => castTop ef k) ?_
  show own_End p e below _ (s₁.setTop (mkF m 0 #[.val (.ref a1)] []))
  refine own_by (fun _ k => XS.aloadN X0.here hx rfl (hb hby own_d_prog_22_method_6_0) rfl rfl k) ?_
  show own_End p e below _ (s₁.setTop (mkF m 1 #[.val (.ref a1)] [(.ref a1)]))
  obtain ⟨T18, X18, e18, st18⟩ := getF X0 hx hZ hown (host := "") (Or.inl (hw _ (List.mem_of_getElem? (i := 13) rfl))) Via.refl e0 (t_a.2.1.ext O) (g := (mkF m 1 #[.val (.ref a1)] [(.ref a1)])) rfl rfl (hb hby own_d_prog_22_method_6_1)
  refine own_by st18 ?_
  show own_End p e below _ (T18.setTop (mkF m 4 #[.val (.ref a1)] [(.int lf)]))
  rcases Decidable.em (lf = (0 : Int32)) with hc4_19 | hc4_19
  · -- 4 True
    refine own_by (fun _ k => XS.ifYes X18.here hx rfl (pc0 := 4) (pc' := 18) rfl (hb hby own_d_prog_22_method_6_4) rfl ((if0 _ _).trans (teq hc4_19).1) (by decide) (by decide) k) ?_
    show own_End p e below _ (T18.setTop (mkF m 18 #[.val (.ref a1)] []))
    refine own_by (fun _ k => XS.iconst X18.here hx rfl (hb hby own_d_prog_22_method_6_18) k) ?_
    show own_End p e below _ (T18.setTop (mkF m 19 #[.val (.ref a1)] [(.int (0 : Int32))]))
    obtain ⟨fs, hr, hrun, hended, hW, hsame⟩ := X18.leave (v := (some (.int (0 : Int32)))) (fun h => by rw [Bd.returns] at h; cases h)
    refine ⟨_, _, retN X18 hx (t := .boolean) Bd.returns (by simp) (hb hby own_d_prog_22_method_6_19) hr, hrun, hended, _, _, rfl, ?_, ⟨_, rfl⟩, hW, hsame.mono (by decide) (by decide)⟩
    refine ⟨?_, N0, e18⟩
    rcases hres with ⟨q1, q2, rfl⟩ | ⟨q1, rfl⟩
    · exact absurd hc4_19 q1
    · rfl
  · -- 4 False
    refine own_by (fun _ k => XS.ifNo X18.here hx rfl (hb hby own_d_prog_22_method_6_4) rfl ((if0 _ _).trans (feq hc4_19).1) k) ?_
    show own_End p e below _ (T18.setTop (mkF m 7 #[.val (.ref a1)] []))
    refine own_by (fun _ k => XS.aloadN X18.here hx rfl (hb hby own_d_prog_22_method_6_7) rfl rfl k) ?_
    show own_End p e below _ (T18.setTop (mkF m 8 #[.val (.ref a1)] [(.ref a1)]))
    obtain ⟨T20, X20, e20, st20⟩ := getF X18 hx hZ hown (host := "") (Or.inl (hw _ (List.mem_of_getElem? (i := 15) rfl))) Via.refl e18 (t_a.2.2.ext O) (g := (mkF m 8 #[.val (.ref a1)] [(.ref a1)])) rfl rfl (hb hby own_d_prog_22_method_6_8)
    refine own_by st20 ?_
    show own_End p e below _ (T20.setTop (mkF m 11 #[.val (.ref a1)] [(.int rg)]))
    rcases Decidable.em (rg = (0 : Int32)) with hc11_21 | hc11_21
    · -- 11 True
      refine own_by (fun _ k => XS.ifYes X20.here hx rfl (pc0 := 11) (pc' := 18) rfl (hb hby own_d_prog_22_method_6_11) rfl ((if0 _ _).trans (teq hc11_21).1) (by decide) (by decide) k) ?_
      show own_End p e below _ (T20.setTop (mkF m 18 #[.val (.ref a1)] []))
      refine own_by (fun _ k => XS.iconst X20.here hx rfl (hb hby own_d_prog_22_method_6_18) k) ?_
      show own_End p e below _ (T20.setTop (mkF m 19 #[.val (.ref a1)] [(.int (0 : Int32))]))
      obtain ⟨fs, hr, hrun, hended, hW, hsame⟩ := X20.leave (v := (some (.int (0 : Int32)))) (fun h => by rw [Bd.returns] at h; cases h)
      refine ⟨_, _, retN X20 hx (t := .boolean) Bd.returns (by simp) (hb hby own_d_prog_22_method_6_19) hr, hrun, hended, _, _, rfl, ?_, ⟨_, rfl⟩, hW, hsame.mono (by decide) (by decide)⟩
      refine ⟨?_, N0, e20⟩
      rcases hres with ⟨q1, q2, rfl⟩ | ⟨q1, rfl⟩
      · exact absurd hc11_21 q2
      · rfl
    · -- 11 False
      refine own_by (fun _ k => XS.ifNo X20.here hx rfl (hb hby own_d_prog_22_method_6_11) rfl ((if0 _ _).trans (feq hc11_21).1) k) ?_
      show own_End p e below _ (T20.setTop (mkF m 14 #[.val (.ref a1)] []))
      refine own_by (fun _ k => XS.iconst X20.here hx rfl (hb hby own_d_prog_22_method_6_14) k) ?_
      show own_End p e below _ (T20.setTop (mkF m 15 #[.val (.ref a1)] [(.int (1 : Int32))]))
      refine own_by (fun _ k => XS.goto X20.here hx rfl (pc0 := 15) (pc' := 19) rfl (hb hby own_d_prog_22_method_6_15) (by decide) (by decide) k) ?_
      show own_End p e below _ (T20.setTop (mkF m 19 #[.val (.ref a1)] [(.int (1 : Int32))]))
      obtain ⟨fs, hr, hrun, hended, hW, hsame⟩ := X20.leave (v := (some (.int (1 : Int32)))) (fun h => by rw [Bd.returns] at h; cases h)
      refine ⟨_, _, retN X20 hx (t := .boolean) Bd.returns (by simp) (hb hby own_d_prog_22_method_6_19) hr, hrun, hended, _, _, rfl, ?_, ⟨_, rfl⟩, hW, hsame.mono (by decide) (by decide)⟩
      refine ⟨?_, N0, e20⟩
      rcases hres with ⟨q1, q2, rfl⟩ | ⟨q1, rfl⟩
      · rfl
      · exact (q1.elim (fun h => absurd h hc4_19) (fun h => absurd h hc11_21))
set_option maxRecDepth 65536 in
set_option maxHeartbeats 40000000 in
theorem own_law (l : Launch) (Z : State) (a0 : Array Value) (hw : ∀ d ∈ tables_1, d.before a0 Z = true) (ws : List Jvm.Cond) (p1 : Int32) (u0 u1 u2 u3 u4 u5 u6 u7 u8 : Addr) (h0 : Heap) (n0 : Nat) (O : Ext Z.heap h0) (S_u0 : Sta Z Z.heap "com/example/referee/referee/associativity/RuleType" "LEFT_CONFORMING" "Lcom/example/referee/referee/associativity/RuleType;" (.ref u0)) (S_u1 : Sta Z Z.heap "com/example/referee/referee/associativity/RuleType" "RIGHT_CONFORMING" "Lcom/example/referee/referee/associativity/RuleType;" (.ref u1)) (S_u2 : Sta Z Z.heap "com/example/referee/referee/associativity/RuleType" "LEFT_CHOICE" "Lcom/example/referee/referee/associativity/RuleType;" (.ref u2)) (S_u3 : Sta Z Z.heap "com/example/referee/referee/associativity/RuleType" "RIGHT_CHOICE" "Lcom/example/referee/referee/associativity/RuleType;" (.ref u3)) (S_u4 : Sta Z Z.heap "com/example/referee/referee/associativity/RuleType" "LEFT_AXIOM" "Lcom/example/referee/referee/associativity/RuleType;" (.ref u4)) (S_u5 : Sta Z Z.heap "com/example/referee/referee/associativity/RuleType" "RIGHT_AXIOM" "Lcom/example/referee/referee/associativity/RuleType;" (.ref u5)) (S_u6 : Sta Z Z.heap "com/example/referee/referee/associativity/RuleType" "COMMUNICATING" "Lcom/example/referee/referee/associativity/RuleType;" (.ref u6)) (S_u7 : Sta Z Z.heap "com/example/referee/referee/associativity/RuleType" "LEFT_CHOICE_WITH_TEST" "Lcom/example/referee/referee/associativity/RuleType;" (.ref u7)) (S_u8 : Sta Z Z.heap "com/example/referee/referee/associativity/RuleType" "RIGHT_CHOICE_WITH_TEST" "Lcom/example/referee/referee/associativity/RuleType;" (.ref u8)) (t_u0 : own_T Z 1 0 u0) (t_u1 : own_T Z 0 1 u1) (t_u2 : own_T Z 1 0 u2) (t_u3 : own_T Z 0 1 u3) (t_u4 : own_T Z 0 0 u4) (t_u5 : own_T Z 0 0 u5) (t_u6 : own_T Z 1 1 u6) (t_u7 : own_T Z 1 1 u7) (t_u8 : own_T Z 1 1 u8) :
    own_Met l Z x code maxLocals ret ws room_1 #[(.int p1)] h0 (fun v h L => v = some (.int 1) ∧ Fr n0 L) := by
  refine MetFree.of_bodySF (plainFor_of_name own_pn0) hisR ?_
  intro p e s m args below meth c s₁ Bd hml0 hP hK
  obtain ⟨rfl, hZ, hh⟩ := hP
  have hx := Bd.exec
  have hby := Bd.bytes
  have hml : c.maxLocals = 4 := hml0
  have hown : s.vm.findClass "com/example/referee/referee/associativity/RuleTypePairOfLabelsPinLaw" = some m.cls := findClass_of_methodNamed Bd.named
  have hnm := (name_of_methodNamed Bd.named Bd.method).1
  have X0 : Stand p l e room_1 s m #[(.int p1)] below meth c s₁ [] 0 0 := Stand.of_body Bd
  have e0 : s₁.heap = h0 := by rw [← hh, Bd.state]; rfl
  have N0 := Fr.nil n0
  have ef : entryFrame m #[(.int p1)] maxLocals = mkF m 0 #[.val (.int p1), .unset, .unset, .unset] [] := by first | (simp [entryFrame, mkF, argsToLocals, Value.category, maxLocals]; done) | rfl
  show own_End p e below _ (s₁.setTop (entryFrame m #[(.int p1)] maxLocals))
  refine own_by (fun _ k => castTop ef k) ?_
  show own_End p e below _ (s₁.setTop (mkF m 0 #[.val (.int p1), .unset, .unset, .unset] []))
  refine own_by (fun _ k => XS.iloadN X0.here hx rfl (hb hby at_0) rfl k) ?_
  show own_End p e below _ (s₁.setTop (mkF m 1 #[.val (.int p1), .unset, .unset, .unset] [(.int p1)]))
  refine own_by (fun _ k => X0.ldcInt hx hown (mvT hZ (hw _ (List.mem_of_getElem? (i := 0) rfl))) (g := (mkF m 1 #[.val (.int p1), .unset, .unset, .unset] [(.int p1)])) rfl (hb hby at_1) _ k) ?_
  show own_End p e below _ (s₁.setTop (mkF m 3 #[.val (.int p1), .unset, .unset, .unset] [(.int (2147483647 : Int32)), (.int p1)]))
  refine own_by (fun _ k => XS.iand X0.here hx rfl (hb hby at_3) rfl k) ?_
  show own_End p e below _ (s₁.setTop (mkF m 4 #[.val (.int p1), .unset, .unset, .unset] [(.int (p1 &&& (2147483647 : Int32)))]))
  refine own_by (fun _ k => XS.bipush X0.here hx rfl (hb hby at_4) k) ?_
  show own_End p e below _ (s₁.setTop (mkF m 6 #[.val (.int p1), .unset, .unset, .unset] [(.int (9 : Int32)), (.int (p1 &&& (2147483647 : Int32)))]))
  refine own_by (fun _ k => iremM (g := (mkF m 6 #[.val (.int p1), .unset, .unset, .unset] [(.int (9 : Int32)), (.int (p1 &&& (2147483647 : Int32)))])) X0 hx rfl (hb hby at_6) rfl (by decide) k) ?_
  show own_End p e below _ (s₁.setTop (mkF m 7 #[.val (.int p1), .unset, .unset, .unset] [(.int ((p1 &&& (2147483647 : Int32)) % (9 : Int32)))]))
  refine own_by (fun _ k => XS.istoreN X0.here hx rfl (hb hby at_7) rfl (l' := #[.val (.int p1), .val (.int ((p1 &&& (2147483647 : Int32)) % (9 : Int32))), .unset, .unset]) rfl k) ?_
  show own_End p e below _ (s₁.setTop (mkF m 8 #[.val (.int p1), .val (.int ((p1 &&& (2147483647 : Int32)) % (9 : Int32))), .unset, .unset] []))
  refine own_by (fun _ k => XS.iloadN X0.here hx rfl (hb hby at_8) rfl k) ?_
  show own_End p e below _ (s₁.setTop (mkF m 9 #[.val (.int p1), .val (.int ((p1 &&& (2147483647 : Int32)) % (9 : Int32))), .unset, .unset] [(.int ((p1 &&& (2147483647 : Int32)) % (9 : Int32)))]))
  obtain ⟨_, _, ⟨T22, L22, k22, n22⟩, -, X22, ⟨Lc22, hQ22, l22, y22, z22⟩, st22⟩ := Jvm.LawKit.callS X0 hx (y := (⟨"com/example/referee/referee/associativity/RuleTypePairOfLabelsPinLaw", "pick", "(I)Lcom/example/referee/referee/associativity/RuleType;"⟩ : MethodName)) hown (mvT hZ (hw _ (List.mem_of_getElem? (i := 1) rfl))) (mvT hZ (hw _ (List.mem_of_getElem? (i := 2) rfl))) (mvT hZ (hw _ (List.mem_of_getElem? (i := 3) rfl))) (mvT hZ (hw _ (List.mem_of_getElem? (i := 4) rfl))) (by decide) (own_back (W := 0) (own_pick l Z a0 hw [] ((p1 &&& (2147483647 : Int32)) % (9 : Int32)) u0 u1 u2 u3 u4 u5 u6 u7 u8 h0 n0 O S_u0 S_u1 S_u2 S_u3 S_u4 S_u5 S_u6 S_u7 S_u8 t_u0 t_u1 t_u2 t_u3 t_u4 t_u5 t_u6 t_u7 t_u8 (own_mod p1 9 9 rfl (by decide))) hZ (hw _ (List.mem_of_getElem? (i := 4) rfl)) (hw _ (List.mem_of_getElem? (i := 3) rfl)) (by decide) (by decide)) (g := (mkF m 9 #[.val (.int p1), .val (.int ((p1 &&& (2147483647 : Int32)) % (9 : Int32))), .unset, .unset] [(.int ((p1 &&& (2147483647 : Int32)) % (9 : Int32)))])) rfl (by rw [hml]; rfl) (argsL := [(.int ((p1 &&& (2147483647 : Int32)) % (9 : Int32)))]) (rest := []) (lenOf own_pd0 rfl) rfl (by show 2 * 0 + _ ≤ _; exact Nat.le_of_eq rfl) (hb hby at_9) (fun _ _ => ⟨rfl, e0, (by decide : 0 + 0 ≤ _), (by decide : 0 + 0 ≤ _)⟩)
  dsimp only [Pt.U, Pt.locs, Pt.cells, Pt.slots] at X22 l22 y22 z22 st22 hQ22
  subst l22 y22 z22
  obtain ⟨ax, lf, rg, rfl, t22, r22, N22q, e22⟩ := hQ22
  have N22 := Fr.app N0 N22q
  refine own_by st22 ?_
  rcases r22 with ⟨hi6, rfl, rfl⟩ | ⟨hi6, rfl⟩ | ⟨hi6, rfl, rfl⟩
  · -- case 0
    show own_End p e below _ (T22.setTop (mkF m 12 #[.val (.int p1), .val (.int ((p1 &&& (2147483647 : Int32)) % (9 : Int32))), .unset, .unset] [(.ref ax)]))
    refine own_by (fun _ k => XS.astoreN X22.here hx rfl (hb hby at_12) rfl rfl (l' := #[.val (.int p1), .val (.int ((p1 &&& (2147483647 : Int32)) % (9 : Int32))), .val (.ref ax), .unset]) rfl k) ?_
    show own_End p e below _ (T22.setTop (mkF m 13 #[.val (.int p1), .val (.int ((p1 &&& (2147483647 : Int32)) % (9 : Int32))), .val (.ref ax), .unset] []))
    refine own_by (fun _ k => XS.iloadN X22.here hx rfl (hb hby at_13) rfl k) ?_
    show own_End p e below _ (T22.setTop (mkF m 14 #[.val (.int p1), .val (.int ((p1 &&& (2147483647 : Int32)) % (9 : Int32))), .val (.ref ax), .unset] [(.int ((p1 &&& (2147483647 : Int32)) % (9 : Int32)))]))
    refine own_by (fun _ k => XS.bipush X22.here hx rfl (hb hby at_14) k) ?_
    show own_End p e below _ (T22.setTop (mkF m 16 #[.val (.int p1), .val (.int ((p1 &&& (2147483647 : Int32)) % (9 : Int32))), .val (.ref ax), .unset] [(.int (6 : Int32)), (.int ((p1 &&& (2147483647 : Int32)) % (9 : Int32)))]))
    refine own_by (fun _ k => XS.icmpNo X22.here hx rfl (hb hby at_16) rfl (flt hi6).1 k) ?_
    show own_End p e below _ (T22.setTop (mkF m 19 #[.val (.int p1), .val (.int ((p1 &&& (2147483647 : Int32)) % (9 : Int32))), .val (.ref ax), .unset] []))
    refine own_by (fun _ k => XS.iconst X22.here hx rfl (hb hby at_19) k) ?_
    show own_End p e below _ (T22.setTop (mkF m 20 #[.val (.int p1), .val (.int ((p1 &&& (2147483647 : Int32)) % (9 : Int32))), .val (.ref ax), .unset] [(.int (1 : Int32))]))
    refine own_by (fun _ k => XS.goto X22.here hx rfl (pc0 := 20) (pc' := 24) rfl (hb hby at_20) (by decide) (by decide) k) ?_
    show own_End p e below _ (T22.setTop (mkF m 24 #[.val (.int p1), .val (.int ((p1 &&& (2147483647 : Int32)) % (9 : Int32))), .val (.ref ax), .unset] [(.int (1 : Int32))]))
    refine own_by (fun _ k => XS.istoreN X22.here hx rfl (hb hby at_24) rfl (l' := #[.val (.int p1), .val (.int ((p1 &&& (2147483647 : Int32)) % (9 : Int32))), .val (.ref ax), .val (.int (1 : Int32))]) rfl k) ?_
    show own_End p e below _ (T22.setTop (mkF m 25 #[.val (.int p1), .val (.int ((p1 &&& (2147483647 : Int32)) % (9 : Int32))), .val (.ref ax), .val (.int (1 : Int32))] []))
    refine own_by (fun _ k => XS.aloadN X22.here hx rfl (hb hby at_25) rfl rfl k) ?_
    show own_End p e below _ (T22.setTop (mkF m 26 #[.val (.int p1), .val (.int ((p1 &&& (2147483647 : Int32)) % (9 : Int32))), .val (.ref ax), .val (.int (1 : Int32))] [(.ref ax)]))
    obtain ⟨cq23, kq23, q23a, q23b, q23c⟩ := isOf hZ e22 (t22.1.ext O)
    obtain ⟨_, _, ⟨T23, L23, k23, n23⟩, -, X23, ⟨Lc23, hQ23, l23, y23, z23⟩, st23⟩ := X22.virtualBack hx (y := (⟨"com/example/referee/referee/associativity/RuleType", "pairOfLabels", "()Z"⟩ : MethodName)) (z := (⟨"com/example/referee/referee/associativity/RuleType", "pairOfLabels", "()Z"⟩ : MethodName)) hown (mvT hZ (hw _ (List.mem_of_getElem? (i := 8) rfl))) (mvT hZ (hw _ (List.mem_of_getElem? (i := 9) rfl))) (notFace_of_selects (args := #[]) (mvT hZ (hw _ (List.mem_of_getElem? (i := 11) rfl)))) (mvT hZ (hw _ (List.mem_of_getElem? (i := 11) rfl))) (mvT hZ (hw _ (List.mem_of_getElem? (i := 10) rfl))) (by decide) (own_back (W := 0) (own_pol l Z a0 hw [] ax 1 1 1 h0 n0 O t22 (Or.inl ⟨by decide, by decide, rfl⟩)) hZ (hw _ (List.mem_of_getElem? (i := 12) rfl)) (hw _ (List.mem_of_getElem? (i := 6) rfl)) (by decide) (by decide)) q23a q23c (g := (mkF m 26 #[.val (.int p1), .val (.int ((p1 &&& (2147483647 : Int32)) % (9 : Int32))), .val (.ref ax), .val (.int (1 : Int32))] [(.ref ax)])) rfl (by rw [hml]; rfl) (Steps.refl _) (argsL := []) (rest := []) (lenOf own_pd1 rfl) rfl (by show 2 * 0 + _ ≤ _; exact Nat.le_of_eq rfl) (hb hby at_26) (fun _ _ => ⟨rfl, e22, (by decide : 0 + 0 ≤ _), (by decide : 0 + 0 ≤ _)⟩)
    dsimp only [Pt.U, Pt.locs, Pt.cells, Pt.slots] at X23 l23 y23 z23 st23 hQ23
    subst l23 y23 z23
    obtain ⟨rfl, N23q, e23⟩ := hQ23
    have N23 := Fr.app N22 N23q
    refine own_by (fun _ k => st23.trans k) ?_
    show own_End p e below _ (T23.setTop (mkF m 29 #[.val (.int p1), .val (.int ((p1 &&& (2147483647 : Int32)) % (9 : Int32))), .val (.ref ax), .val (.int (1 : Int32))] [(.int (1 : Int32))]))
    refine own_by (fun _ k => XS.iloadN X23.here hx rfl (hb hby at_29) rfl k) ?_
    show own_End p e below _ (T23.setTop (mkF m 30 #[.val (.int p1), .val (.int ((p1 &&& (2147483647 : Int32)) % (9 : Int32))), .val (.ref ax), .val (.int (1 : Int32))] [(.int (1 : Int32)), (.int (1 : Int32))]))
    refine own_by (fun _ k => XS.icmpNo X23.here hx rfl (hb hby at_30) rfl (teq (by decide)).2 k) ?_
    show own_End p e below _ (T23.setTop (mkF m 33 #[.val (.int p1), .val (.int ((p1 &&& (2147483647 : Int32)) % (9 : Int32))), .val (.ref ax), .val (.int (1 : Int32))] []))
    refine own_by (fun _ k => XS.iconst X23.here hx rfl (hb hby at_33) k) ?_
    show own_End p e below _ (T23.setTop (mkF m 34 #[.val (.int p1), .val (.int ((p1 &&& (2147483647 : Int32)) % (9 : Int32))), .val (.ref ax), .val (.int (1 : Int32))] [(.int (1 : Int32))]))
    refine own_by (fun _ k => XS.goto X23.here hx rfl (pc0 := 34) (pc' := 38) rfl (hb hby at_34) (by decide) (by decide) k) ?_
    show own_End p e below _ (T23.setTop (mkF m 38 #[.val (.int p1), .val (.int ((p1 &&& (2147483647 : Int32)) % (9 : Int32))), .val (.ref ax), .val (.int (1 : Int32))] [(.int (1 : Int32))]))
    obtain ⟨fs, hr, hrun, hended, hW, hsame⟩ := X23.leave (v := (some (.int (1 : Int32)))) (fun h => by rw [Bd.returns] at h; cases h)
    refine ⟨_, _, retN X23 hx (t := .boolean) Bd.returns (by simp) (hb hby at_38) hr, hrun, hended, _, _, rfl, ?_, ⟨_, rfl⟩, hW, hsame.mono (by decide) (by decide)⟩
    exact ⟨rfl, N23⟩
  · -- case 1
    show own_End p e below _ (T22.setTop (mkF m 12 #[.val (.int p1), .val (.int ((p1 &&& (2147483647 : Int32)) % (9 : Int32))), .unset, .unset] [(.ref ax)]))
    refine own_by (fun _ k => XS.astoreN X22.here hx rfl (hb hby at_12) rfl rfl (l' := #[.val (.int p1), .val (.int ((p1 &&& (2147483647 : Int32)) % (9 : Int32))), .val (.ref ax), .unset]) rfl k) ?_
    show own_End p e below _ (T22.setTop (mkF m 13 #[.val (.int p1), .val (.int ((p1 &&& (2147483647 : Int32)) % (9 : Int32))), .val (.ref ax), .unset] []))
    refine own_by (fun _ k => XS.iloadN X22.here hx rfl (hb hby at_13) rfl k) ?_
    show own_End p e below _ (T22.setTop (mkF m 14 #[.val (.int p1), .val (.int ((p1 &&& (2147483647 : Int32)) % (9 : Int32))), .val (.ref ax), .unset] [(.int ((p1 &&& (2147483647 : Int32)) % (9 : Int32)))]))
    refine own_by (fun _ k => XS.bipush X22.here hx rfl (hb hby at_14) k) ?_
    show own_End p e below _ (T22.setTop (mkF m 16 #[.val (.int p1), .val (.int ((p1 &&& (2147483647 : Int32)) % (9 : Int32))), .val (.ref ax), .unset] [(.int (6 : Int32)), (.int ((p1 &&& (2147483647 : Int32)) % (9 : Int32)))]))
    refine own_by (fun _ k => XS.icmpYes X22.here hx rfl (pc0 := 16) (pc' := 23) rfl (hb hby at_16) rfl (tlt hi6).1 (by decide) (by decide) k) ?_
    show own_End p e below _ (T22.setTop (mkF m 23 #[.val (.int p1), .val (.int ((p1 &&& (2147483647 : Int32)) % (9 : Int32))), .val (.ref ax), .unset] []))
    refine own_by (fun _ k => XS.iconst X22.here hx rfl (hb hby at_23) k) ?_
    show own_End p e below _ (T22.setTop (mkF m 24 #[.val (.int p1), .val (.int ((p1 &&& (2147483647 : Int32)) % (9 : Int32))), .val (.ref ax), .unset] [(.int (0 : Int32))]))
    refine own_by (fun _ k => XS.istoreN X22.here hx rfl (hb hby at_24) rfl (l' := #[.val (.int p1), .val (.int ((p1 &&& (2147483647 : Int32)) % (9 : Int32))), .val (.ref ax), .val (.int (0 : Int32))]) rfl k) ?_
    show own_End p e below _ (T22.setTop (mkF m 25 #[.val (.int p1), .val (.int ((p1 &&& (2147483647 : Int32)) % (9 : Int32))), .val (.ref ax), .val (.int (0 : Int32))] []))
    refine own_by (fun _ k => XS.aloadN X22.here hx rfl (hb hby at_25) rfl rfl k) ?_
    show own_End p e below _ (T22.setTop (mkF m 26 #[.val (.int p1), .val (.int ((p1 &&& (2147483647 : Int32)) % (9 : Int32))), .val (.ref ax), .val (.int (0 : Int32))] [(.ref ax)]))
    obtain ⟨cq24, kq24, q24a, q24b, q24c⟩ := isOf hZ e22 (t22.1.ext O)
    obtain ⟨_, _, ⟨T24, L24, k24, n24⟩, -, X24, ⟨Lc24, hQ24, l24, y24, z24⟩, st24⟩ := X22.virtualBack hx (y := (⟨"com/example/referee/referee/associativity/RuleType", "pairOfLabels", "()Z"⟩ : MethodName)) (z := (⟨"com/example/referee/referee/associativity/RuleType", "pairOfLabels", "()Z"⟩ : MethodName)) hown (mvT hZ (hw _ (List.mem_of_getElem? (i := 8) rfl))) (mvT hZ (hw _ (List.mem_of_getElem? (i := 9) rfl))) (notFace_of_selects (args := #[]) (mvT hZ (hw _ (List.mem_of_getElem? (i := 11) rfl)))) (mvT hZ (hw _ (List.mem_of_getElem? (i := 11) rfl))) (mvT hZ (hw _ (List.mem_of_getElem? (i := 10) rfl))) (by decide) (own_back (W := 0) (own_pol l Z a0 hw [] ax 0 rg 0 h0 n0 O t22 (Or.inr ⟨Or.inl rfl, rfl⟩)) hZ (hw _ (List.mem_of_getElem? (i := 12) rfl)) (hw _ (List.mem_of_getElem? (i := 6) rfl)) (by decide) (by decide)) q24a q24c (g := (mkF m 26 #[.val (.int p1), .val (.int ((p1 &&& (2147483647 : Int32)) % (9 : Int32))), .val (.ref ax), .val (.int (0 : Int32))] [(.ref ax)])) rfl (by rw [hml]; rfl) (Steps.refl _) (argsL := []) (rest := []) (lenOf own_pd1 rfl) rfl (by show 2 * 0 + _ ≤ _; exact Nat.le_of_eq rfl) (hb hby at_26) (fun _ _ => ⟨rfl, e22, (by decide : 0 + 0 ≤ _), (by decide : 0 + 0 ≤ _)⟩)
    dsimp only [Pt.U, Pt.locs, Pt.cells, Pt.slots] at X24 l24 y24 z24 st24 hQ24
    subst l24 y24 z24
    obtain ⟨rfl, N24q, e24⟩ := hQ24
    have N24 := Fr.app N22 N24q
    refine own_by (fun _ k => st24.trans k) ?_
    show own_End p e below _ (T24.setTop (mkF m 29 #[.val (.int p1), .val (.int ((p1 &&& (2147483647 : Int32)) % (9 : Int32))), .val (.ref ax), .val (.int (0 : Int32))] [(.int (0 : Int32))]))
    refine own_by (fun _ k => XS.iloadN X24.here hx rfl (hb hby at_29) rfl k) ?_
    show own_End p e below _ (T24.setTop (mkF m 30 #[.val (.int p1), .val (.int ((p1 &&& (2147483647 : Int32)) % (9 : Int32))), .val (.ref ax), .val (.int (0 : Int32))] [(.int (0 : Int32)), (.int (0 : Int32))]))
    refine own_by (fun _ k => XS.icmpNo X24.here hx rfl (hb hby at_30) rfl (teq (by decide)).2 k) ?_
    show own_End p e below _ (T24.setTop (mkF m 33 #[.val (.int p1), .val (.int ((p1 &&& (2147483647 : Int32)) % (9 : Int32))), .val (.ref ax), .val (.int (0 : Int32))] []))
    refine own_by (fun _ k => XS.iconst X24.here hx rfl (hb hby at_33) k) ?_
    show own_End p e below _ (T24.setTop (mkF m 34 #[.val (.int p1), .val (.int ((p1 &&& (2147483647 : Int32)) % (9 : Int32))), .val (.ref ax), .val (.int (0 : Int32))] [(.int (1 : Int32))]))
    refine own_by (fun _ k => XS.goto X24.here hx rfl (pc0 := 34) (pc' := 38) rfl (hb hby at_34) (by decide) (by decide) k) ?_
    show own_End p e below _ (T24.setTop (mkF m 38 #[.val (.int p1), .val (.int ((p1 &&& (2147483647 : Int32)) % (9 : Int32))), .val (.ref ax), .val (.int (0 : Int32))] [(.int (1 : Int32))]))
    obtain ⟨fs, hr, hrun, hended, hW, hsame⟩ := X24.leave (v := (some (.int (1 : Int32)))) (fun h => by rw [Bd.returns] at h; cases h)
    refine ⟨_, _, retN X24 hx (t := .boolean) Bd.returns (by simp) (hb hby at_38) hr, hrun, hended, _, _, rfl, ?_, ⟨_, rfl⟩, hW, hsame.mono (by decide) (by decide)⟩
    exact ⟨rfl, N24⟩
  · -- case 2
    show own_End p e below _ (T22.setTop (mkF m 12 #[.val (.int p1), .val (.int ((p1 &&& (2147483647 : Int32)) % (9 : Int32))), .unset, .unset] [(.ref ax)]))
    refine own_by (fun _ k => XS.astoreN X22.here hx rfl (hb hby at_12) rfl rfl (l' := #[.val (.int p1), .val (.int ((p1 &&& (2147483647 : Int32)) % (9 : Int32))), .val (.ref ax), .unset]) rfl k) ?_
    show own_End p e below _ (T22.setTop (mkF m 13 #[.val (.int p1), .val (.int ((p1 &&& (2147483647 : Int32)) % (9 : Int32))), .val (.ref ax), .unset] []))
    refine own_by (fun _ k => XS.iloadN X22.here hx rfl (hb hby at_13) rfl k) ?_
    show own_End p e below _ (T22.setTop (mkF m 14 #[.val (.int p1), .val (.int ((p1 &&& (2147483647 : Int32)) % (9 : Int32))), .val (.ref ax), .unset] [(.int ((p1 &&& (2147483647 : Int32)) % (9 : Int32)))]))
    refine own_by (fun _ k => XS.bipush X22.here hx rfl (hb hby at_14) k) ?_
    show own_End p e below _ (T22.setTop (mkF m 16 #[.val (.int p1), .val (.int ((p1 &&& (2147483647 : Int32)) % (9 : Int32))), .val (.ref ax), .unset] [(.int (6 : Int32)), (.int ((p1 &&& (2147483647 : Int32)) % (9 : Int32)))]))
    refine own_by (fun _ k => XS.icmpYes X22.here hx rfl (pc0 := 16) (pc' := 23) rfl (hb hby at_16) rfl (tlt hi6).1 (by decide) (by decide) k) ?_
    show own_End p e below _ (T22.setTop (mkF m 23 #[.val (.int p1), .val (.int ((p1 &&& (2147483647 : Int32)) % (9 : Int32))), .val (.ref ax), .unset] []))
    refine own_by (fun _ k => XS.iconst X22.here hx rfl (hb hby at_23) k) ?_
    show own_End p e below _ (T22.setTop (mkF m 24 #[.val (.int p1), .val (.int ((p1 &&& (2147483647 : Int32)) % (9 : Int32))), .val (.ref ax), .unset] [(.int (0 : Int32))]))
    refine own_by (fun _ k => XS.istoreN X22.here hx rfl (hb hby at_24) rfl (l' := #[.val (.int p1), .val (.int ((p1 &&& (2147483647 : Int32)) % (9 : Int32))), .val (.ref ax), .val (.int (0 : Int32))]) rfl k) ?_
    show own_End p e below _ (T22.setTop (mkF m 25 #[.val (.int p1), .val (.int ((p1 &&& (2147483647 : Int32)) % (9 : Int32))), .val (.ref ax), .val (.int (0 : Int32))] []))
    refine own_by (fun _ k => XS.aloadN X22.here hx rfl (hb hby at_25) rfl rfl k) ?_
    show own_End p e below _ (T22.setTop (mkF m 26 #[.val (.int p1), .val (.int ((p1 &&& (2147483647 : Int32)) % (9 : Int32))), .val (.ref ax), .val (.int (0 : Int32))] [(.ref ax)]))
    obtain ⟨cq25, kq25, q25a, q25b, q25c⟩ := isOf hZ e22 (t22.1.ext O)
    obtain ⟨_, _, ⟨T25, L25, k25, n25⟩, -, X25, ⟨Lc25, hQ25, l25, y25, z25⟩, st25⟩ := X22.virtualBack hx (y := (⟨"com/example/referee/referee/associativity/RuleType", "pairOfLabels", "()Z"⟩ : MethodName)) (z := (⟨"com/example/referee/referee/associativity/RuleType", "pairOfLabels", "()Z"⟩ : MethodName)) hown (mvT hZ (hw _ (List.mem_of_getElem? (i := 8) rfl))) (mvT hZ (hw _ (List.mem_of_getElem? (i := 9) rfl))) (notFace_of_selects (args := #[]) (mvT hZ (hw _ (List.mem_of_getElem? (i := 11) rfl)))) (mvT hZ (hw _ (List.mem_of_getElem? (i := 11) rfl))) (mvT hZ (hw _ (List.mem_of_getElem? (i := 10) rfl))) (by decide) (own_back (W := 0) (own_pol l Z a0 hw [] ax 1 0 0 h0 n0 O t22 (Or.inr ⟨Or.inr rfl, rfl⟩)) hZ (hw _ (List.mem_of_getElem? (i := 12) rfl)) (hw _ (List.mem_of_getElem? (i := 6) rfl)) (by decide) (by decide)) q25a q25c (g := (mkF m 26 #[.val (.int p1), .val (.int ((p1 &&& (2147483647 : Int32)) % (9 : Int32))), .val (.ref ax), .val (.int (0 : Int32))] [(.ref ax)])) rfl (by rw [hml]; rfl) (Steps.refl _) (argsL := []) (rest := []) (lenOf own_pd1 rfl) rfl (by show 2 * 0 + _ ≤ _; exact Nat.le_of_eq rfl) (hb hby at_26) (fun _ _ => ⟨rfl, e22, (by decide : 0 + 0 ≤ _), (by decide : 0 + 0 ≤ _)⟩)
    dsimp only [Pt.U, Pt.locs, Pt.cells, Pt.slots] at X25 l25 y25 z25 st25 hQ25
    subst l25 y25 z25
    obtain ⟨rfl, N25q, e25⟩ := hQ25
    have N25 := Fr.app N22 N25q
    refine own_by (fun _ k => st25.trans k) ?_
    show own_End p e below _ (T25.setTop (mkF m 29 #[.val (.int p1), .val (.int ((p1 &&& (2147483647 : Int32)) % (9 : Int32))), .val (.ref ax), .val (.int (0 : Int32))] [(.int (0 : Int32))]))
    refine own_by (fun _ k => XS.iloadN X25.here hx rfl (hb hby at_29) rfl k) ?_
    show own_End p e below _ (T25.setTop (mkF m 30 #[.val (.int p1), .val (.int ((p1 &&& (2147483647 : Int32)) % (9 : Int32))), .val (.ref ax), .val (.int (0 : Int32))] [(.int (0 : Int32)), (.int (0 : Int32))]))
    refine own_by (fun _ k => XS.icmpNo X25.here hx rfl (hb hby at_30) rfl (teq (by decide)).2 k) ?_
    show own_End p e below _ (T25.setTop (mkF m 33 #[.val (.int p1), .val (.int ((p1 &&& (2147483647 : Int32)) % (9 : Int32))), .val (.ref ax), .val (.int (0 : Int32))] []))
    refine own_by (fun _ k => XS.iconst X25.here hx rfl (hb hby at_33) k) ?_
    show own_End p e below _ (T25.setTop (mkF m 34 #[.val (.int p1), .val (.int ((p1 &&& (2147483647 : Int32)) % (9 : Int32))), .val (.ref ax), .val (.int (0 : Int32))] [(.int (1 : Int32))]))
    refine own_by (fun _ k => XS.goto X25.here hx rfl (pc0 := 34) (pc' := 38) rfl (hb hby at_34) (by decide) (by decide) k) ?_
    show own_End p e below _ (T25.setTop (mkF m 38 #[.val (.int p1), .val (.int ((p1 &&& (2147483647 : Int32)) % (9 : Int32))), .val (.ref ax), .val (.int (0 : Int32))] [(.int (1 : Int32))]))
    obtain ⟨fs, hr, hrun, hended, hW, hsame⟩ := X25.leave (v := (some (.int (1 : Int32)))) (fun h => by rw [Bd.returns] at h; cases h)
    refine ⟨_, _, retN X25 hx (t := .boolean) Bd.returns (by simp) (hb hby at_38) hr, hrun, hended, _, _, rfl, ?_, ⟨_, rfl⟩, hW, hsame.mono (by decide) (by decide)⟩
    exact ⟨rfl, N25⟩
set_option maxRecDepth 65536 in
set_option maxHeartbeats 40000000 in
theorem comes_1 {Post : Tables → Env → Array Value → State → Outcome → State → Prop} (hpost : ∀ tb e args s v u, (limb_1_1.after args s (.returned v) u = true ∧ limb_1_2.after args s (.returned v) u = true ∧ True) → FrameEnd s (.returned v) u (Jvm.fieldLocs frame_1_writes args s ++ Jvm.arrayLocs frame_1_arrays args s ++ Jvm.staticLocs frame_1_statics s) 0 0 → Post tb e args s (.returned v) u) :
    ArmFor flags0 classFile x code maxLocals ret World_1 tables_1 room_1 Calls_1 rest_1 Pre_1 Post := by
  intro l hfl _ _ p e ha hc hk s m args below hf hA hF happ hP
  obtain ⟨hcalls, hrest, hpre⟩ := hP
  obtain ⟨-, -, -, hnamed, -, -, -, hat⟩ := (Spec.applies_iff hf).mp happ
  obtain ⟨hg, hn⟩ := and_e (Cond.before_iff.mp (show (Jvm.Cond.and given_1 narrow_1).before args s = true from hpre))
  obtain ⟨g0, g0'⟩ := and_e hg
  obtain ⟨w0, rfl⟩ : ∃ w0 : Value, args = #[w0] := by
    have hs : args.size = 1 := by simpa [Cond.value, given_1] using g0
    obtain ⟨L⟩ := args
    match L, hs with
    | [w0], _ => exact ⟨w0, rfl⟩
  have hw := fun d (hd : d ∈ tables_1) => atoms_spec (ws := Jvm.Cond.code x code maxLocals ret :: tables_1) hat d (List.mem_cons_of_mem _ hd)
  have hfit : Fit s := fun {y c} hc i hi => by
    obtain ⟨ha, rfl⟩ := Array.getElem?_eq_some_iff.mp hc
    have q := List.all_eq_true.mp ((Array.all_eq_true_iff_forall_mem.mp hF) _ (Array.getElem_mem ha)) i (List.mem_range.mpr hi)
    simpa [Array.getElem?_eq_getElem hi] using q
  obtain ⟨i0, ei0⟩ := is_v g0'
  obtain rfl : w0 = (.int i0) := Option.some.inj ei0
  obtain ⟨q0, hn⟩ := and_e hn
  obtain ⟨q1, hn⟩ := and_e hn
  obtain ⟨q2, hn⟩ := and_e hn
  obtain ⟨q3, hn⟩ := and_e hn
  obtain ⟨q4, hn⟩ := and_e hn
  obtain ⟨q5, hn⟩ := and_e hn
  obtain ⟨q6, hn⟩ := and_e hn
  obtain ⟨q7, hn⟩ := and_e hn
  obtain ⟨q8, hn⟩ := and_e hn
  obtain ⟨q9, hn⟩ := and_e hn
  obtain ⟨q10, hn⟩ := and_e hn
  obtain ⟨q11, hn⟩ := and_e hn
  obtain ⟨q12, hn⟩ := and_e hn
  obtain ⟨q13, hn⟩ := and_e hn
  obtain ⟨q14, hn⟩ := and_e hn
  obtain ⟨q15, hn⟩ := and_e hn
  obtain ⟨q16, hn⟩ := and_e hn
  obtain ⟨q17, hn⟩ := and_e hn
  obtain ⟨q18, hn⟩ := and_e hn
  obtain ⟨q19, hn⟩ := and_e hn
  obtain ⟨q20, hn⟩ := and_e hn
  obtain ⟨q21, hn⟩ := and_e hn
  obtain ⟨q22, hn⟩ := and_e hn
  obtain ⟨q23, hn⟩ := and_e hn
  obtain ⟨q24, hn⟩ := and_e hn
  obtain ⟨q25, hn⟩ := and_e hn
  obtain ⟨u0, ev_u0⟩ := exa_v q0
  have S_u0 := Sta.start ev_u0 (Or.inr ⟨(hw _ (List.mem_of_getElem? (i := 6) rfl)), (hw _ (List.mem_of_getElem? (i := 7) rfl))⟩)
  have E_u0 := Exa.start ev_u0 q0
  obtain ⟨u3, ev_u3⟩ := exa_v q3
  have S_u3 := Sta.start ev_u3 (Or.inr ⟨(hw _ (List.mem_of_getElem? (i := 6) rfl)), (hw _ (List.mem_of_getElem? (i := 18) rfl))⟩)
  have E_u3 := Exa.start ev_u3 q3
  obtain ⟨u2, ev_u2⟩ := exa_v q5
  have S_u2 := Sta.start ev_u2 (Or.inr ⟨(hw _ (List.mem_of_getElem? (i := 6) rfl)), (hw _ (List.mem_of_getElem? (i := 20) rfl))⟩)
  have E_u2 := Exa.start ev_u2 q5
  obtain ⟨u1, ev_u1⟩ := exa_v q8
  have S_u1 := Sta.start ev_u1 (Or.inr ⟨(hw _ (List.mem_of_getElem? (i := 6) rfl)), (hw _ (List.mem_of_getElem? (i := 22) rfl))⟩)
  have E_u1 := Exa.start ev_u1 q8
  obtain ⟨u7, ev_u7⟩ := exa_v q10
  have S_u7 := Sta.start ev_u7 (Or.inr ⟨(hw _ (List.mem_of_getElem? (i := 6) rfl)), (hw _ (List.mem_of_getElem? (i := 24) rfl))⟩)
  have E_u7 := Exa.start ev_u7 q10
  obtain ⟨u4, ev_u4⟩ := exa_v q13
  have S_u4 := Sta.start ev_u4 (Or.inr ⟨(hw _ (List.mem_of_getElem? (i := 6) rfl)), (hw _ (List.mem_of_getElem? (i := 26) rfl))⟩)
  have E_u4 := Exa.start ev_u4 q13
  obtain ⟨u8, ev_u8⟩ := exa_v q15
  have S_u8 := Sta.start ev_u8 (Or.inr ⟨(hw _ (List.mem_of_getElem? (i := 6) rfl)), (hw _ (List.mem_of_getElem? (i := 28) rfl))⟩)
  have E_u8 := Exa.start ev_u8 q15
  obtain ⟨u6, ev_u6⟩ := exa_v q18
  have S_u6 := Sta.start ev_u6 (Or.inr ⟨(hw _ (List.mem_of_getElem? (i := 6) rfl)), (hw _ (List.mem_of_getElem? (i := 30) rfl))⟩)
  have E_u6 := Exa.start ev_u6 q18
  obtain ⟨u5, ev_u5⟩ := exa_v q21
  have S_u5 := Sta.start ev_u5 (Or.inr ⟨(hw _ (List.mem_of_getElem? (i := 6) rfl)), (hw _ (List.mem_of_getElem? (i := 32) rfl))⟩)
  have E_u5 := Exa.start ev_u5 q21
  have f_onLeft_u0 := own_intEq q1
  rw [fld_at ev_u0] at f_onLeft_u0
  have F_onLeft_u0 := Fld.start f_onLeft_u0
  have f_onRight_u0 := own_intEq q2
  rw [fld_at ev_u0] at f_onRight_u0
  have F_onRight_u0 := Fld.start f_onRight_u0
  have f_onLeft_u3 := own_intEq q4
  rw [fld_at ev_u3] at f_onLeft_u3
  have F_onLeft_u3 := Fld.start f_onLeft_u3
  have f_onLeft_u2 := own_intEq q6
  rw [fld_at ev_u2] at f_onLeft_u2
  have F_onLeft_u2 := Fld.start f_onLeft_u2
  have f_onRight_u2 := own_intEq q7
  rw [fld_at ev_u2] at f_onRight_u2
  have F_onRight_u2 := Fld.start f_onRight_u2
  have f_onLeft_u1 := own_intEq q9
  rw [fld_at ev_u1] at f_onLeft_u1
  have F_onLeft_u1 := Fld.start f_onLeft_u1
  have f_onLeft_u7 := own_intEq q11
  rw [fld_at ev_u7] at f_onLeft_u7
  have F_onLeft_u7 := Fld.start f_onLeft_u7
  have f_onRight_u7 := own_intEq q12
  rw [fld_at ev_u7] at f_onRight_u7
  have F_onRight_u7 := Fld.start f_onRight_u7
  have f_onLeft_u4 := own_intEq q14
  rw [fld_at ev_u4] at f_onLeft_u4
  have F_onLeft_u4 := Fld.start f_onLeft_u4
  have f_onLeft_u8 := own_intEq q16
  rw [fld_at ev_u8] at f_onLeft_u8
  have F_onLeft_u8 := Fld.start f_onLeft_u8
  have f_onRight_u8 := own_intEq q17
  rw [fld_at ev_u8] at f_onRight_u8
  have F_onRight_u8 := Fld.start f_onRight_u8
  have f_onLeft_u6 := own_intEq q19
  rw [fld_at ev_u6] at f_onLeft_u6
  have F_onLeft_u6 := Fld.start f_onLeft_u6
  have f_onRight_u6 := own_intEq q20
  rw [fld_at ev_u6] at f_onRight_u6
  have F_onRight_u6 := Fld.start f_onRight_u6
  have f_onLeft_u5 := own_intEq q22
  rw [fld_at ev_u5] at f_onLeft_u5
  have F_onLeft_u5 := Fld.start f_onLeft_u5
  have f_onRight_u3 := own_intEq q23
  rw [fld_at ev_u3] at f_onRight_u3
  have F_onRight_u3 := Fld.start f_onRight_u3
  have f_onRight_u1 := own_intEq q24
  rw [fld_at ev_u1] at f_onRight_u1
  have F_onRight_u1 := Fld.start f_onRight_u1
  have f_onRight_u4 := own_intEq q25
  rw [fld_at ev_u4] at f_onRight_u4
  have F_onRight_u4 := Fld.start f_onRight_u4
  have f_onRight_u5 := own_intEq hn
  rw [fld_at ev_u5] at f_onRight_u5
  have F_onRight_u5 := Fld.start f_onRight_u5
  obtain ⟨n, o, h1, h2, h3, _, L, rfl, ⟨rfl, N⟩, hq⟩ := own_law l s _ hw tables_1 i0 u0 u1 u2 u3 u4 u5 u6 u7 u8 s.heap s.heap.size ⟨Nat.le_refl _, fun _ _ q => q⟩ S_u0 S_u1 S_u2 S_u3 S_u4 S_u5 S_u6 S_u7 S_u8 ⟨E_u0, F_onLeft_u0, F_onRight_u0⟩ ⟨E_u1, F_onLeft_u1, F_onRight_u1⟩ ⟨E_u2, F_onLeft_u2, F_onRight_u2⟩ ⟨E_u3, F_onLeft_u3, F_onRight_u3⟩ ⟨E_u4, F_onLeft_u4, F_onRight_u4⟩ ⟨E_u5, F_onLeft_u5, F_onRight_u5⟩ ⟨E_u6, F_onLeft_u6, F_onRight_u6⟩ ⟨E_u7, F_onLeft_u7, F_onRight_u7⟩ ⟨E_u8, F_onLeft_u8, F_onRight_u8⟩ p e ha hc hk s m _ below hf ((Spec.applies_iff_loose hf).mp happ).1 ⟨rfl, State.Warmed39.refl s, rfl⟩ trivial
  refine ⟨n, _, h1, h2, h3, hpost _ _ _ _ _ _ ⟨Cond.after_iff.mpr rfl, Cond.after_iff.mpr (eq_i res_at (Term.int_eval (1)) rfl), trivial⟩ ⟨hq.1, hq.2.1, (hq.2.2.sift fun y hy => Or.inr (N y hy)).mono (by decide) (by decide)⟩⟩
theorem main_1_1 : Claimed_1_1 := comes_1 fun _ _ _ _ _ _ h hF => ⟨h.1, hF⟩
theorem main_1_2 : Claimed_1_2 := comes_1 fun _ _ _ _ _ _ h hF => ⟨h.2.1, hF⟩
end Jvm.Pilot.@@N@@
namespace Jvm.Pilot.@@N@@
open Jvm Jvm.ClassFile Sem Op Lib Jvm.Free Jvm.Stand Jvm.Pilot.@@N@@.Jvm.D
/-! MADE BY PROGRAM (witnessworld.py) out of the Statement's table words and the real class files: 12 classes; the members and pool entries that the words name. The judged class is class 1, her method 2. -/
namespace start1
open Jvm.ClassFile
def u (s : String) : CpInfo := .utf8 (stringToUtf16 s)
/-- a pool by its gaps: so many unusable entries, then the entry; so many at the end -/
def gap : Nat → List CpInfo → List CpInfo
  | 0, r => r
  | n + 1, r => .unusable :: gap n r
def poolList (es : List (Nat × CpInfo)) (last : Nat) : List CpInfo := es.foldr (fun e r => gap e.1 (e.2 :: r)) (gap last [])
def pool (es : List (Nat × CpInfo)) (last : Nat) : Array CpInfo := ⟨poolList es last⟩
def fileOf (pool : Array CpInfo) (this : Nat) (attrs : Array Attribute := #[]) (ms : Array MethodInfo := #[]) (fl : Nat := 33) (sup : Nat := 0) (ifs : Array Nat := #[]) (fds : Array FieldInfo := #[]) : ClassFile where
  minorVersion := 0
  majorVersion := 65
  constantPool := pool
  accessFlags := fl
  thisClass := this
  superClass := sup
  interfaces := ifs
  fields := fds
  methods := ms
  attributes := attrs
def plain (name : String) (sup : Option ClassId) : Class where
  name := name
  kind := .ordinary
  loader := none
  accessFlags := 33
  super := sup
  interfaces := #[]
  cf := none
  fields := #[]
  methods := #[]
  instanceTypes := #[]
  staticTypes := #[]
  resolved := #[]
  callSites := []
  init := .initialized
  statics := none
  mirror := none

def pool0 : Array CpInfo := pool [(5, u "<init>"), (0, u "()V"), (1, .class_ 10), (1, u "java/lang/Object")] 113

def k0m0 : Method := { name := "<init>", desc := "()V", sig := { parameters := [], returnType := none }, accessFlags := 1, code := none }
/-- java/lang/Object -/
def k0 : Class := { plain "java/lang/Object" none with
  accessFlags := 33
  interfaces := #[]
  cf := some (fileOf pool0 8 #[] #[{ accessFlags := 1, nameIndex := 5, descriptorIndex := 6, attributes := #[] }] 33 0 #[] #[])
  fields := #[]
  methods := #[k0m0]
  instanceTypes := #[]
  staticTypes := #[]
  resolved := Array.replicate 124 none
  statics := none }

def pool1 : Array CpInfo := pool [(2, .class_ 4), (1, u "java/lang/Object"), (0, u "<init>"), (0, u "()V"), (0, .fieldref 8 9), (0, .class_ 10), (0, .nameAndType 11 12), (0, u "com/example/referee/referee/associativity/RuleType"), (0, u "LEFT_CONFORMING"), (0, u "Lcom/example/referee/referee/associativity/RuleType;"), (0, .fieldref 8 14), (0, .nameAndType 15 12), (0, u "RIGHT_CONFORMING"), (0, .fieldref 8 17), (0, .nameAndType 18 12), (0, u "LEFT_CHOICE"), (0, .fieldref 8 20), (0, .nameAndType 21 12), (0, u "RIGHT_CHOICE"), (0, .fieldref 8 23), (0, .nameAndType 24 12), (0, u "LEFT_AXIOM"), (0, .fieldref 8 26), (0, .nameAndType 27 12), (0, u "RIGHT_AXIOM"), (0, .fieldref 8 29), (0, .nameAndType 30 12), (0, u "COMMUNICATING"), (0, .fieldref 8 32), (0, .nameAndType 33 12), (0, u "LEFT_CHOICE_WITH_TEST"), (0, .fieldref 8 35), (0, .nameAndType 36 12), (0, u "RIGHT_CHOICE_WITH_TEST"), (0, .integer 2147483647), (0, .methodref 39 40), (0, .class_ 41), (0, .nameAndType 42 43), (0, u "com/example/referee/referee/associativity/RuleTypePairOfLabelsPinLaw"), (0, u "pick"), (0, u "(I)Lcom/example/referee/referee/associativity/RuleType;"), (0, .methodref 8 45), (0, .nameAndType 46 47), (0, u "pairOfLabels"), (0, u "()Z"), (3, u "law"), (0, u "(I)Z")] 2

def k1m0 : Method := { name := "<init>", desc := "()V", sig := { parameters := [], returnType := none }, accessFlags := 2, code := none }
def k1c1 : Code := { maxStack := 2, maxLocals := 1, code := method_2_code, exceptionTable := #[], attributes := #[] }
def k1m1 : Method := { name := "pick", desc := "(I)Lcom/example/referee/referee/associativity/RuleType;", sig := { parameters := [.int], returnType := some (.object "com/example/referee/referee/associativity/RuleType") }, accessFlags := 10, code := some k1c1 }
def k1c2 : Code := { maxStack := 2, maxLocals := 4, code := code, exceptionTable := #[], attributes := #[] }
def k1m2 : Method := { name := "law", desc := "(I)Z", sig := { parameters := [.int], returnType := some .boolean }, accessFlags := 9, code := some k1c2 }
/-- com/example/referee/referee/associativity/RuleTypePairOfLabelsPinLaw -/
def k1 : Class := { plain "com/example/referee/referee/associativity/RuleTypePairOfLabelsPinLaw" (some 0) with
  accessFlags := 49
  interfaces := #[]
  cf := some (fileOf pool1 39 #[] #[{ accessFlags := 2, nameIndex := 5, descriptorIndex := 6, attributes := #[] }, { accessFlags := 10, nameIndex := 42, descriptorIndex := 43, attributes := #[] }, { accessFlags := 9, nameIndex := 51, descriptorIndex := 52, attributes := #[] }] 49 2 #[] #[])
  fields := #[]
  methods := #[k1m0, k1m1, k1m2]
  instanceTypes := #[]
  staticTypes := #[]
  resolved := Array.replicate 55 none
  statics := none }

def pool2 : Array CpInfo := pool [(1, .class_ 2), (0, u "java/lang/constant/Constable"), (0, .class_ 4), (0, u "java/lang/Object")] 6

/-- java/lang/constant/Constable -/
def k2 : Class := { plain "java/lang/constant/Constable" (some 0) with
  accessFlags := 1537
  interfaces := #[]
  cf := some (fileOf pool2 1 #[] #[] 1537 3 #[] #[])
  fields := #[]
  methods := #[]
  instanceTypes := #[]
  staticTypes := #[]
  resolved := Array.replicate 11 none
  statics := none }

def pool3 : Array CpInfo := pool [(1, .class_ 2), (0, u "java/lang/Comparable"), (0, .class_ 4), (0, u "java/lang/Object")] 7

/-- java/lang/Comparable -/
def k3 : Class := { plain "java/lang/Comparable" (some 0) with
  accessFlags := 1537
  interfaces := #[]
  cf := some (fileOf pool3 1 #[] #[] 1537 3 #[] #[])
  fields := #[]
  methods := #[]
  instanceTypes := #[]
  staticTypes := #[]
  resolved := Array.replicate 12 none
  statics := none }

def pool4 : Array CpInfo := pool [(1, .class_ 2), (0, u "java/io/Serializable"), (0, .class_ 4), (0, u "java/lang/Object")] 2

/-- java/io/Serializable -/
def k4 : Class := { plain "java/io/Serializable" (some 0) with
  accessFlags := 1537
  interfaces := #[]
  cf := some (fileOf pool4 1 #[] #[] 1537 3 #[] #[])
  fields := #[]
  methods := #[]
  instanceTypes := #[]
  staticTypes := #[]
  resolved := Array.replicate 7 none
  statics := none }

def pool5 : Array CpInfo := pool [(2, .class_ 4), (1, u "java/lang/Enum"), (0, u "name"), (0, u "Ljava/lang/String;"), (2, u "ordinal"), (0, u "I"), (1, .class_ 14), (1, u "java/lang/Object"), (4, u "hash"), (86, .class_ 108), (1, u "java/lang/Enum$EnumDesc"), (2, .class_ 112), (0, u "java/lang/constant/Constable"), (0, .class_ 114), (0, u "java/lang/Comparable"), (0, .class_ 116), (0, u "java/io/Serializable")] 87

/-- java/lang/Enum -/
def k5 : Class := { plain "java/lang/Enum" (some 0) with
  accessFlags := 1057
  interfaces := #[2, 3, 4]
  cf := some (fileOf pool5 2 #[.nestMembers #[106]] #[] 1057 12 #[111, 113, 115] #[{ accessFlags := 18, nameIndex := 5, descriptorIndex := 6, attributes := #[] }, { accessFlags := 18, nameIndex := 9, descriptorIndex := 10, attributes := #[] }, { accessFlags := 2, nameIndex := 19, descriptorIndex := 10, attributes := #[] }])
  fields := #[{ name := "name", type := (.object "java/lang/String"), accessFlags := 18, slot := 0, constantValue := 0 }, { name := "ordinal", type := .int, accessFlags := 18, slot := 1, constantValue := 0 }, { name := "hash", type := .int, accessFlags := 2, slot := 2, constantValue := 0 }]
  methods := #[]
  instanceTypes := #[(.object "java/lang/String"), .int, .int]
  staticTypes := #[]
  resolved := Array.replicate 204 none
  statics := none }

def pool6 : Array CpInfo := pool [(1, .class_ 2), (0, u "com/example/referee/referee/associativity/RuleType"), (2, u "LEFT_CONFORMING"), (0, u "Lcom/example/referee/referee/associativity/RuleType;"), (2, u "RIGHT_CONFORMING"), (2, u "LEFT_CHOICE"), (2, u "RIGHT_CHOICE"), (2, u "LEFT_AXIOM"), (2, u "RIGHT_AXIOM"), (2, u "COMMUNICATING"), (2, u "LEFT_CHOICE_WITH_TEST"), (2, u "RIGHT_CHOICE_WITH_TEST"), (2, u "$VALUES"), (0, u "[Lcom/example/referee/referee/associativity/RuleType;"), (6, .class_ 43), (1, u "java/lang/Enum"), (6, .fieldref 1 51), (0, .nameAndType 52 53), (0, u "onLeft"), (0, u "Z"), (0, .fieldref 1 55), (0, .nameAndType 56 53), (0, u "onRight"), (2, u "labelOf"), (0, u "Lcom/example/referee/referee/associativity/RuleType$Side;"), (2, u "tested"), (2, u "target"), (0, u "Lcom/example/referee/referee/associativity/RuleType$Target;"), (5, .class_ 75), (1, u "com/example/referee/referee/associativity/RuleType$Target"), (7, u "()Z"), (16, .class_ 102), (1, u "com/example/referee/referee/associativity/RuleType$Variables"), (17, .class_ 122), (1, u "com/example/referee/referee/associativity/RuleType$Side"), (42, u "pairOfLabels")] 46

def k6c0 : Code := { maxStack := 1, maxLocals := 1, code := prog_22_method_6_code, exceptionTable := #[], attributes := #[] }
def k6m0 : Method := { name := "pairOfLabels", desc := "()Z", sig := { parameters := [], returnType := some .boolean }, accessFlags := 0, code := some k6c0 }
/-- com/example/referee/referee/associativity/RuleType -/
def k6 : Class := { plain "com/example/referee/referee/associativity/RuleType" (some 5) with
  accessFlags := 16432
  interfaces := #[]
  cf := some (fileOf pool6 1 #[.nestMembers #[73, 100, 120]] #[{ accessFlags := 0, nameIndex := 165, descriptorIndex := 83, attributes := #[] }] 16432 41 #[] #[{ accessFlags := 16409, nameIndex := 5, descriptorIndex := 6, attributes := #[] }, { accessFlags := 16409, nameIndex := 9, descriptorIndex := 6, attributes := #[] }, { accessFlags := 16409, nameIndex := 12, descriptorIndex := 6, attributes := #[] }, { accessFlags := 16409, nameIndex := 15, descriptorIndex := 6, attributes := #[] }, { accessFlags := 16409, nameIndex := 18, descriptorIndex := 6, attributes := #[] }, { accessFlags := 16409, nameIndex := 21, descriptorIndex := 6, attributes := #[] }, { accessFlags := 16409, nameIndex := 24, descriptorIndex := 6, attributes := #[] }, { accessFlags := 16409, nameIndex := 27, descriptorIndex := 6, attributes := #[] }, { accessFlags := 16409, nameIndex := 30, descriptorIndex := 6, attributes := #[] }, { accessFlags := 18, nameIndex := 52, descriptorIndex := 53, attributes := #[] }, { accessFlags := 18, nameIndex := 56, descriptorIndex := 53, attributes := #[] }, { accessFlags := 18, nameIndex := 59, descriptorIndex := 60, attributes := #[] }, { accessFlags := 18, nameIndex := 63, descriptorIndex := 60, attributes := #[] }, { accessFlags := 18, nameIndex := 66, descriptorIndex := 67, attributes := #[] }, { accessFlags := 4122, nameIndex := 33, descriptorIndex := 34, attributes := #[] }])
  fields := #[{ name := "LEFT_CONFORMING", type := (.object "com/example/referee/referee/associativity/RuleType"), accessFlags := 16409, slot := 0, constantValue := 0 }, { name := "RIGHT_CONFORMING", type := (.object "com/example/referee/referee/associativity/RuleType"), accessFlags := 16409, slot := 1, constantValue := 0 }, { name := "LEFT_CHOICE", type := (.object "com/example/referee/referee/associativity/RuleType"), accessFlags := 16409, slot := 2, constantValue := 0 }, { name := "RIGHT_CHOICE", type := (.object "com/example/referee/referee/associativity/RuleType"), accessFlags := 16409, slot := 3, constantValue := 0 }, { name := "LEFT_AXIOM", type := (.object "com/example/referee/referee/associativity/RuleType"), accessFlags := 16409, slot := 4, constantValue := 0 }, { name := "RIGHT_AXIOM", type := (.object "com/example/referee/referee/associativity/RuleType"), accessFlags := 16409, slot := 5, constantValue := 0 }, { name := "COMMUNICATING", type := (.object "com/example/referee/referee/associativity/RuleType"), accessFlags := 16409, slot := 6, constantValue := 0 }, { name := "LEFT_CHOICE_WITH_TEST", type := (.object "com/example/referee/referee/associativity/RuleType"), accessFlags := 16409, slot := 7, constantValue := 0 }, { name := "RIGHT_CHOICE_WITH_TEST", type := (.object "com/example/referee/referee/associativity/RuleType"), accessFlags := 16409, slot := 8, constantValue := 0 }, { name := "onLeft", type := .boolean, accessFlags := 18, slot := 3, constantValue := 0 }, { name := "onRight", type := .boolean, accessFlags := 18, slot := 4, constantValue := 0 }, { name := "labelOf", type := (.object "com/example/referee/referee/associativity/RuleType$Side"), accessFlags := 18, slot := 5, constantValue := 0 }, { name := "tested", type := (.object "com/example/referee/referee/associativity/RuleType$Side"), accessFlags := 18, slot := 6, constantValue := 0 }, { name := "target", type := (.object "com/example/referee/referee/associativity/RuleType$Target"), accessFlags := 18, slot := 7, constantValue := 0 }, { name := "$VALUES", type := (.array (.object "com/example/referee/referee/associativity/RuleType")), accessFlags := 4122, slot := 9, constantValue := 0 }]
  methods := #[k6m0]
  instanceTypes := #[(.object "java/lang/String"), .int, .int, .boolean, .boolean, (.object "com/example/referee/referee/associativity/RuleType$Side"), (.object "com/example/referee/referee/associativity/RuleType$Side"), (.object "com/example/referee/referee/associativity/RuleType$Target")]
  staticTypes := #[(.object "com/example/referee/referee/associativity/RuleType"), (.object "com/example/referee/referee/associativity/RuleType"), (.object "com/example/referee/referee/associativity/RuleType"), (.object "com/example/referee/referee/associativity/RuleType"), (.object "com/example/referee/referee/associativity/RuleType"), (.object "com/example/referee/referee/associativity/RuleType"), (.object "com/example/referee/referee/associativity/RuleType"), (.object "com/example/referee/referee/associativity/RuleType"), (.object "com/example/referee/referee/associativity/RuleType"), (.array (.object "com/example/referee/referee/associativity/RuleType"))]
  resolved := Array.replicate 212 none
  statics := some 0 }

def pool7 : Array CpInfo := pool [(1, u "java/lang/Cloneable"), (0, .class_ 1), (0, u "java/lang/Object"), (0, .class_ 3)] 3

/-- java/lang/Cloneable -/
def k7 : Class := { plain "java/lang/Cloneable" (some 0) with
  accessFlags := 1537
  interfaces := #[]
  cf := some (fileOf pool7 2 #[] #[] 1537 4 #[] #[])
  fields := #[]
  methods := #[]
  instanceTypes := #[]
  staticTypes := #[]
  resolved := Array.replicate 8 none
  statics := none }

/-- the primitive byte -/
def k8 : Class := { plain "byte" none with kind := .primitive 'B', accessFlags := 0x411 }
/-- [B -/
def k9 : Class := { plain "[B" (some 0) with kind := .array 8 .byte, interfaces := #[7, 4], accessFlags := 1041 }

/-- the primitive int -/
def k10 : Class := { plain "int" none with kind := .primitive 'I', accessFlags := 0x411 }
/-- [I -/
def k11 : Class := { plain "[I" (some 0) with kind := .array 10 .int, interfaces := #[7, 4], accessFlags := 1041 }

def heap : Heap := #[{ cls := 6, slots := #[.ref 1, .ref 2, .ref 3, .ref 4, .ref 5, .ref 6, .ref 7, .ref 8, .ref 9, .null], vm := .statics 6 },
  { cls := 6, slots := #[.null, .int 0, .int 0, .int 1, .int 0, .null, .null, .null], vm := .none },
  { cls := 6, slots := #[.null, .int 1, .int 0, .int 0, .int 1, .null, .null, .null], vm := .none },
  { cls := 6, slots := #[.null, .int 2, .int 0, .int 1, .int 0, .null, .null, .null], vm := .none },
  { cls := 6, slots := #[.null, .int 3, .int 0, .int 0, .int 1, .null, .null, .null], vm := .none },
  { cls := 6, slots := #[.null, .int 4, .int 0, .int 0, .int 0, .null, .null, .null], vm := .none },
  { cls := 6, slots := #[.null, .int 5, .int 0, .int 0, .int 0, .null, .null, .null], vm := .none },
  { cls := 6, slots := #[.null, .int 6, .int 0, .int 1, .int 1, .null, .null, .null], vm := .none },
  { cls := 6, slots := #[.null, .int 7, .int 0, .int 1, .int 1, .null, .null, .null], vm := .none },
  { cls := 6, slots := #[.null, .int 8, .int 0, .int 1, .int 1, .null, .null, .null], vm := .none }]
def classes : Array Class := #[k0, k1, k2, k3, k4, k5, k6, k7, k8, k9, k10, k11]
def interned : List (Array UInt16 × Addr) := []
def slotsUsed : Nat := 82
def theMethod : MethodId := ⟨1, 2⟩
def args0 : Array Value := #[.int 5]
def aboutOver (below : List Frame) : State where
  vm := { classes := classes, interned := interned.toArray }
  heap := heap
  slotsUsed := slotsUsed
  threads := #[{ frames := .invoking theMethod args0 :: below }]
def below0 : List Frame := [.native { method := ⟨0, 0⟩, args := #[] }]
def about1 : State := aboutOver below0
def p0 : Program := .bare "" "" ""
def e0 : Env := launch0.env 0 0 0
theorem w_frames : about1.frames = Frame.invoking theMethod args0 :: below0 := rfl
set_option maxRecDepth 65536 in
theorem w_args : argsFit about1.vm theMethod args0 = true := by decide +kernel
set_option maxRecDepth 65536 in
theorem w_heap : heapFits about1 = true := by decide +kernel
set_option maxRecDepth 65536 in
theorem w_runnable : about1.curStatus? = some .runnable := by decide +kernel
set_option maxRecDepth 65536 in
theorem w_alone : about1.alone = true := by decide +kernel
set_option maxRecDepth 65536 in
theorem w_named : about1.methodNamed? x = some theMethod := by decide +kernel
set_option maxRecDepth 65536 in
theorem w_hears : about1.hears theMethod below0 = true := by decide +kernel
set_option maxRecDepth 65536 in
theorem w_ripe : about1.ripe theMethod args0 below0 = true := by decide +kernel
theorem w_running : about1.status = .running := rfl
set_option maxRecDepth 65536 in
theorem w_room : about1.hasRoom e0.platform room_1 = true :=
  launch0.hasRoom_least _ room_1 (by decide +kernel) (by decide +kernel) (by decide +kernel) (by decide +kernel) (by decide +kernel) (by decide +kernel)
theorem allAtoms_all (ts : List Jvm.Cond) (a : Array Jvm.Value) (st : Jvm.State) : (allAtoms ts).before a st = ts.all (fun c => c.before a st) := by
  induction ts with
  | nil => rfl
  | cons c t ih =>
    show (Jvm.Cond.and c (allAtoms t)).before a st = _
    rw [Jvm.Cond.before_and, ih, List.all_cons]
def words1 : List Jvm.Cond := Jvm.Cond.code x code maxLocals ret :: tables_1
/-- a 'code' word, met by the world's own term for the bytes: nothing is compared byte by byte -/
theorem code_word {y : MethodName} {bytes : ByteArray} {mx : Nat} {rt : Option FieldType} {a : Array Value} {s : State} {m : MethodId} {meth : Method} {c : Code} (h1 : s.methodNamed? y = some m) (h2 : s.vm.method? m = some meth) (h3 : meth.code = some c) (h4 : c.code = bytes)
    (h5 : (c.maxLocals == mx && c.exceptionTable.isEmpty && decide (c.maxStack ≤ mostOperands) && decide (meth.sig.returnType = rt) && !meth.locks && decide (parseMethodDescriptor y.desc = some meth.sig)) = true) : (Jvm.Cond.code y bytes mx rt).before a s = true := by
  simp only [Bool.and_eq_true, beq_iff_eq, Bool.not_eq_true', decide_eq_true_eq] at h5
  obtain ⟨⟨⟨⟨⟨g1, g2⟩, g3⟩, g4⟩, g5⟩, g6⟩ := h5
  simp [Cond.before, Cond.holds, Cond.value, h1, h2, h3, h4, g1, g2, g3, g4, g5, g6]
def isCode : Jvm.Cond → Bool
  | .code _ _ _ _ => true
  | _ => false
theorem all_split {L : List Jvm.Cond} {P : Jvm.Cond → Bool} (h1 : L.all (fun c => isCode c || P c) = true) (h2 : ∀ c ∈ L.filter isCode, P c = true) : L.all P = true := by
  refine List.all_eq_true.mpr fun c hc => ?_
  have h := List.all_eq_true.mp h1 c hc
  rcases Bool.eq_false_or_eq_true (isCode c) with hi | hi
  · exact h2 c (List.mem_filter.mpr ⟨hc, hi⟩)
  · simpa [hi] using h
set_option maxRecDepth 65536 in
theorem w_c0 : (Jvm.Cond.code x code maxLocals ret).before args0 about1 = true := code_word (m := ⟨1, 2⟩) (meth := k1m2) (c := k1c2) (by decide +kernel) rfl rfl rfl (by decide +kernel)
set_option maxRecDepth 65536 in
theorem w_c1 : (Jvm.Cond.code ({ cls := "com/example/referee/referee/associativity/RuleTypePairOfLabelsPinLaw", name := "pick", desc := "(I)Lcom/example/referee/referee/associativity/RuleType;" } : Jvm.MethodName) method_2_code (1 : Nat) (Option.some (Jvm.ClassFile.FieldType.object "com/example/referee/referee/associativity/RuleType"))).before args0 about1 = true := code_word (m := ⟨1, 1⟩) (meth := k1m1) (c := k1c1) (by decide +kernel) rfl rfl rfl (by decide +kernel)
set_option maxRecDepth 65536 in
theorem w_c2 : (Jvm.Cond.code ({ cls := "com/example/referee/referee/associativity/RuleType", name := "pairOfLabels", desc := "()Z" } : Jvm.MethodName) prog_22_method_6_code (1 : Nat) (Option.some Jvm.ClassFile.FieldType.boolean)).before args0 about1 = true := code_word (m := ⟨6, 0⟩) (meth := k6m0) (c := k6c0) (by decide +kernel) rfl rfl rfl (by decide +kernel)
def codes1 : List Jvm.Cond := [Jvm.Cond.code x code maxLocals ret, Jvm.Cond.code ({ cls := "com/example/referee/referee/associativity/RuleTypePairOfLabelsPinLaw", name := "pick", desc := "(I)Lcom/example/referee/referee/associativity/RuleType;" } : Jvm.MethodName) method_2_code (1 : Nat) (Option.some (Jvm.ClassFile.FieldType.object "com/example/referee/referee/associativity/RuleType")), Jvm.Cond.code ({ cls := "com/example/referee/referee/associativity/RuleType", name := "pairOfLabels", desc := "()Z" } : Jvm.MethodName) prog_22_method_6_code (1 : Nat) (Option.some Jvm.ClassFile.FieldType.boolean)]
set_option maxRecDepth 65536 in
theorem codes_eq : words1.filter isCode = codes1 := rfl
theorem w_codes : ∀ c ∈ words1.filter isCode, c.before args0 about1 = true := by
  rw [codes_eq]
  intro c hc
  simp only [codes1, List.mem_cons, List.not_mem_nil, or_false] at hc
  rcases hc with rfl | rfl | rfl
  · exact w_c0
  · exact w_c1
  · exact w_c2
set_option maxRecDepth 65536 in
theorem w_t1 : (words1.take 24).all (fun c => isCode c || c.before args0 about1) = true := by decide +kernel
set_option maxRecDepth 65536 in
theorem w_t2 : (words1.drop 24).all (fun c => isCode c || c.before args0 about1) = true := by decide +kernel
theorem w_tables : (allAtoms (Jvm.Cond.code x code maxLocals ret :: tables_1)).before args0 about1 = true := by
  rw [allAtoms_all]
  show words1.all (fun c => c.before args0 about1) = true
  refine all_split ?_ w_codes
  rw [← List.take_append_drop 24 words1, List.all_append, w_t1, w_t2]
  rfl
set_option maxRecDepth 65536 in
theorem w_case : (Jvm.Cond.and given_1 narrow_1).before args0 about1 = true := by decide +kernel
theorem w_applies : (headSpec (Jvm.Cond.code x code maxLocals ret :: tables_1) room_1).applies x e0.platform about1 = true :=
  (Spec.applies_iff w_frames).mpr ⟨w_running, w_runnable, w_alone, w_named, w_hears, w_ripe, w_room, w_tables⟩
theorem atStart : AtStart classFile x code maxLocals ret World_1 tables_1 room_1 Calls_1 rest_1 Pre_1 launch0 p0 e0 about1 theMethod args0 below0 :=
  ⟨lists_1, trivial, launch0.admits_env _ _ _, launch0.least_env, fairChoices_fair.cas, fairChoices_fair.clock, w_frames, w_args, w_heap, w_applies, trivial, trivial, w_case⟩
end start1
theorem witness_1 : WitnessClaimed_1 := ⟨start1.p0, start1.e0, start1.about1, start1.theMethod, start1.args0, start1.below0, start1.atStart⟩
end Jvm.Pilot.@@N@@
