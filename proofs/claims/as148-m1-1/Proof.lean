import JvmDerived
import JvmDerived.Pilot.@@N@@Statement
import JvmDerived.Pilot.@@N@@Code
set_option linter.unusedVariables false
set_option linter.unusedSimpArgs false
namespace Jvm.Pilot.@@N@@
open Jvm Jvm.ClassFile Sem Op Lib Jvm.Free Jvm.Stand Jvm.LawKit Jvm.RoadKit Bundle Jvm.Pilot.@@N@@.Jvm.D
def own_End (p : Program) (e : Env) (below : List Frame) (G : Outcome → State → Prop) (T : State) : Prop := ∃ s₂ o, Steps p.tables e below T s₂ ∧ s₂.status = .running ∧ Ended s₂ below o ∧ G o s₂
theorem own_by {p : Program} {e : Env} {below : List Frame} {G : Outcome → State → Prop} {T T' : State} (h : ∀ t, Steps p.tables e below T' t → Steps p.tables e below T t) (k : own_End p e below G T') : own_End p e below G T := by
  obtain ⟨s₂, o, h1, h2⟩ := k
  exact ⟨s₂, o, h _ h1, h2⟩
abbrev own_Met (l : Launch) (Z : State) (y : MethodName) (bytes : ByteArray) (maxL : Nat) (rt : Option FieldType) (ws : List Jvm.Cond) (rm : Room) (as' : Array Value) (h0 : Heap) (Q : Option Value → Heap → List Loc → Prop) : Prop :=
  MetFree l y (head1 (Jvm.Cond.code y bytes maxL rt :: ws) rm) (fun a U => a = as' ∧ Z.Warmed39 U.vm ∧ U.heap = h0) (fun _ _ _ _ _ => True) (fun _ U o U' => ∃ v L, o = .returned v ∧ Q v U'.heap L ∧ FrameEnd U o U' L rm.cells rm.slots)
theorem own_back {p : Program} {l : Launch} {e : Env} {R : Room} {s Z : State} {args a0 : Array Value} {below : List Frame} {h : Heap} {y : MethodName} {bytes : ByteArray} {maxL : Nat} {rt : Option FieldType} {rm : Room} {len W : Nat} {as' : Array Value} {Q : Option Value → Heap → List Loc → Prop}
    (hM : own_Met l Z y bytes maxL rt [] rm as' h Q) (hZ : Z.Warmed39 s.vm) (wc : (Cond.code y bytes maxL rt).before a0 Z = true) (wz : (Cond.initialized y.cls).before a0 Z = true) (hf : rm.frames + 1 ≤ R.frames) (hl : W + (maxL + 11) + rm.locals ≤ R.locals) :
    Back l R p e below s args y len W (fun A a => a = as' ∧ A.U.heap = h ∧ A.cells + rm.cells ≤ R.cells ∧ A.slots + rm.slots ≤ R.slots) (fun A _ v B => ∃ L, Q v B.U.heap L ∧ B.locs = A.locs ++ L ∧ B.cells = A.cells + rm.cells ∧ B.slots = A.slots + rm.slots) :=
  backOf (Q := Q) hM hZ wc wz hf hl
theorem own_intEq {t : Term} {k : Int32} {args : Array Value} {s : State} (h : (Cond.eq t (Term.int k)).value args s none s [] = some true) : t.eval args s none [] s = some (.int k) := by
  simp only [Cond.value, Term.eval] at h
  cases ht : t.eval args s none [] s with
  | none => simp [ht] at h
  | some x => cases x <;> simp [ht] at h ⊢; exact h
theorem own_mod (k d : Int32) (D : Int) (hd : d.toInt = D) (hD : 0 < D) : 0 ≤ ((k &&& (2147483647 : Int32)) % d).toInt ∧ ((k &&& (2147483647 : Int32)) % d).toInt < D := by
  have h1 : (k &&& (2147483647 : Int32)).toInt = k.toInt % (2 ^ 31 : Nat) := c_mask k (2147483647 : Int32) 31 (by decide) (by decide)
  have h2 := (c_irem (k &&& (2147483647 : Int32)) d D hd).1 (by rw [h1]; omega)
  rw [h2]; exact ⟨Int.emod_nonneg _ (by omega), Int.emod_lt_of_pos _ hD⟩
theorem own_gcls {p : Program} {l : Launch} {e : Env} {R : Room} {s : State} {m : MethodId} {args : Array Value} {below : List Frame} {meth : Method} {c : Code} {T : State} {locs : List Loc} {cells slots : Nat} {Z : State} {a0 : Array Value} {h : Heap}
    (X : Stand p l e R s m args below meth c T locs cells slots) (hx : p.tables.exec = Jvm.exec) (hZ : Z.Warmed39 s.vm) {own C : String} {index : Nat} (hown : s.vm.findClass own = some m.cls)
    (w1 : (Cond.methodLink own index Stand.gcN).before a0 Z = true) (w2 : (Cond.declares Stand.gcN).before a0 Z = true) (w4 : (Cond.selects C Stand.gcN Stand.gcN).before a0 Z = true) (w5 : (Cond.instanceMethod Stand.gcN).before a0 Z = true) (w6 : (Cond.native Stand.gcN).before a0 Z = true)
    (eT : T.heap = h) {a : Addr} (E : Exa Z h a C) {cc : ClassId} {kc : Class} {mr : Addr} (m1 : Z.vm.findClass C = some cc) (m2 : Z.vm.classes[cc]? = some kc) (m3 : kc.mirror = some mr)
    {g : JFrame} (hg : g.method = m) (hsize : g.locals.size = c.maxLocals) {rest : List Value} (hs : g.stack = .ref a :: rest) (hd : decode c.code g.pc = .ok (.invokevirtual index, 3)) (hf : 1 ≤ R.frames)
    (hl : 2 * g.monitorRoom + (rest.map fun v => v.category).sum + (nativeFrameWords "java/lang/Object" "getClass" 1 + 11) ≤ R.locals) :
    ∃ T', Stand p l e R s m args below meth c T' locs cells slots ∧ T'.heap = h ∧ ∀ target, Steps p.tables e below (T'.setTop { g with pc := g.pc + 3, stack := .ref mr :: rest }) target → Steps p.tables e below (T.setTop g) target := by
  obtain ⟨cB, kB, i1, i2, i3⟩ := isOf hZ eT E
  have j1 : s.vm.findClass C = some cc := by rw [hZ.alike.findClass]; exact m1
  obtain rfl : cB = cc := Option.some.inj (i1.symm.trans j1)
  obtain ⟨k', q, ek⟩ := hZ.alike.2.2 _ _ m2
  have j3 : k'.mirror = some mr := by rw [ek]; exact m3
  have nf : NotFace s Stand.gcN := notFace_of_selects (args := args) (mvT hZ w4)
  obtain ⟨vm', X', st⟩ := X.getClassOf hx hown (mvT hZ w1) (mvT hZ w2) nf (mvT hZ w4) (mvT hZ w5) (mvT hZ w6) i1 i3 q j3 hg hsize hs hd hf hl
  exact ⟨_, X', eT, st⟩
theorem own_three (k : Int32) : (k &&& (2147483647 : Int32)) % (3 : Int32) = (0 : Int32) ∨ (k &&& (2147483647 : Int32)) % (3 : Int32) = (1 : Int32) ∨ (k &&& (2147483647 : Int32)) % (3 : Int32) = (2 : Int32) := by
  have h := own_mod k 3 3 rfl (by decide)
  rw [← Int32.toInt_inj, ← Int32.toInt_inj, ← Int32.toInt_inj]
  have a0 : (0 : Int32).toInt = 0 := rfl
  have a1 : (1 : Int32).toInt = 1 := rfl
  have a2 : (2 : Int32).toInt = 2 := rfl
  omega
theorem own_d_jdk_29_method_65_0 : decode jdk_29_method_65_code 0 = .ok (.iload_n 0, 1) := by decide +kernel
theorem own_d_jdk_29_method_65_1 : decode jdk_29_method_65_code 1 = .ok (.iload_n 1, 1) := by decide +kernel
theorem own_d_jdk_29_method_65_2 : decode jdk_29_method_65_code 2 = .ok (.if_icmp .lt 7, 3) := by decide +kernel
theorem own_d_jdk_29_method_65_5 : decode jdk_29_method_65_code 5 = .ok (.iload_n 0, 1) := by decide +kernel
theorem own_d_jdk_29_method_65_6 : decode jdk_29_method_65_code 6 = .ok (.goto 4, 3) := by decide +kernel
theorem own_d_jdk_29_method_65_9 : decode jdk_29_method_65_code 9 = .ok (.iload_n 1, 1) := by decide +kernel
theorem own_d_jdk_29_method_65_10 : decode jdk_29_method_65_code 10 = .ok (.ireturn, 1) := by decide +kernel
theorem own_d_jdk_37_method_8_0 : decode jdk_37_method_8_code 0 = .ok (.aload_n 1, 1) := by decide +kernel
theorem own_d_jdk_37_method_8_1 : decode jdk_37_method_8_code 1 = .ok (.astore_n 2, 1) := by decide +kernel
theorem own_d_jdk_37_method_8_2 : decode jdk_37_method_8_code 2 = .ok (.aload_n 0, 1) := by decide +kernel
theorem own_d_jdk_37_method_8_3 : decode jdk_37_method_8_code 3 = .ok (.astore_n 3, 1) := by decide +kernel
theorem own_d_jdk_37_method_8_4 : decode jdk_37_method_8_code 4 = .ok (.aload_n 3, 1) := by decide +kernel
theorem own_d_jdk_37_method_8_5 : decode jdk_37_method_8_code 5 = .ok (.invokevirtual 29, 3) := by decide +kernel
theorem own_d_jdk_37_method_8_8 : decode jdk_37_method_8_code 8 = .ok (.aload_n 2, 1) := by decide +kernel
theorem own_d_jdk_37_method_8_9 : decode jdk_37_method_8_code 9 = .ok (.invokevirtual 29, 3) := by decide +kernel
theorem own_d_jdk_37_method_8_12 : decode jdk_37_method_8_code 12 = .ok (.if_acmp .eq 22, 3) := by decide +kernel
theorem own_d_jdk_37_method_8_34 : decode jdk_37_method_8_code 34 = .ok (.aload_n 3, 1) := by decide +kernel
theorem own_d_jdk_37_method_8_35 : decode jdk_37_method_8_code 35 = .ok (.getfield 7, 3) := by decide +kernel
theorem own_d_jdk_37_method_8_38 : decode jdk_37_method_8_code 38 = .ok (.aload_n 2, 1) := by decide +kernel
theorem own_d_jdk_37_method_8_39 : decode jdk_37_method_8_code 39 = .ok (.getfield 7, 3) := by decide +kernel
theorem own_d_jdk_37_method_8_42 : decode jdk_37_method_8_code 42 = .ok (.isub, 1) := by decide +kernel
theorem own_d_jdk_37_method_8_43 : decode jdk_37_method_8_code 43 = .ok (.ireturn, 1) := by decide +kernel
theorem own_d_method_3_0 : decode method_3_code 0 = .ok (.iload_n 0, 1) := by decide +kernel
theorem own_d_method_3_1 : decode method_3_code 1 = .ok (.ifCond .ne 7, 3) := by decide +kernel
theorem own_d_method_3_4 : decode method_3_code 4 = .ok (.getstatic 26, 3) := by decide +kernel
theorem own_d_method_3_7 : decode method_3_code 7 = .ok (.areturn, 1) := by decide +kernel
theorem own_d_method_3_8 : decode method_3_code 8 = .ok (.iload_n 0, 1) := by decide +kernel
theorem own_d_method_3_9 : decode method_3_code 9 = .ok (.iconst 1, 1) := by decide +kernel
theorem own_d_method_3_10 : decode method_3_code 10 = .ok (.if_icmp .ne 7, 3) := by decide +kernel
theorem own_d_method_3_13 : decode method_3_code 13 = .ok (.getstatic 30, 3) := by decide +kernel
theorem own_d_method_3_16 : decode method_3_code 16 = .ok (.areturn, 1) := by decide +kernel
theorem own_d_method_3_17 : decode method_3_code 17 = .ok (.getstatic 33, 3) := by decide +kernel
theorem own_d_method_3_20 : decode method_3_code 20 = .ok (.areturn, 1) := by decide +kernel
theorem own_d_prog_33_method_5_0 : decode prog_33_method_5_code 0 = .ok (.aload_n 1, 1) := by decide +kernel
theorem own_d_prog_33_method_5_1 : decode prog_33_method_5_code 1 = .ok (.aload_n 0, 1) := by decide +kernel
theorem own_d_prog_33_method_5_2 : decode prog_33_method_5_code 2 = .ok (.invokevirtual 46, 3) := by decide +kernel
theorem own_d_prog_33_method_5_5 : decode prog_33_method_5_code 5 = .ok (.ifCond .le 7, 3) := by decide +kernel
theorem own_d_prog_33_method_5_8 : decode prog_33_method_5_code 8 = .ok (.aload_n 1, 1) := by decide +kernel
theorem own_d_prog_33_method_5_9 : decode prog_33_method_5_code 9 = .ok (.goto 4, 3) := by decide +kernel
theorem own_d_prog_33_method_5_12 : decode prog_33_method_5_code 12 = .ok (.aload_n 0, 1) := by decide +kernel
theorem own_d_prog_33_method_5_13 : decode prog_33_method_5_code 13 = .ok (.areturn, 1) := by decide +kernel
theorem own_pd0 : parseMethodDescriptor "(Ljava/lang/Enum;)I" = some ⟨[(.object "java/lang/Enum")], some .int⟩ := by decide +kernel
theorem own_pd1 : parseMethodDescriptor "(I)Lcom/example/orderly_commit/orderlycommit/jdbc/StatementKind;" = some ⟨[.int], some (.object "com/example/orderly_commit/orderlycommit/jdbc/StatementKind")⟩ := by decide +kernel
theorem own_pd2 : parseMethodDescriptor "(Lcom/example/orderly_commit/orderlycommit/jdbc/StatementKind;Lcom/example/orderly_commit/orderlycommit/jdbc/StatementKind;)Lcom/example/orderly_commit/orderlycommit/jdbc/StatementKind;" = some ⟨[(.object "com/example/orderly_commit/orderlycommit/jdbc/StatementKind"), (.object "com/example/orderly_commit/orderlycommit/jdbc/StatementKind")], some (.object "com/example/orderly_commit/orderlycommit/jdbc/StatementKind")⟩ := by decide +kernel
theorem own_pd3 : parseMethodDescriptor "(II)I" = some ⟨[.int, .int], some .int⟩ := by decide +kernel
theorem own_pn0 : plainName "com/example/orderly_commit/orderlycommit/jdbc/StatementKindWeightierPinLaw" = true := by first | (simp [plainName, overriddenIn]; done) | decide +kernel
theorem own_pn1 : plainName "java/lang/Enum" = true := by first | (simp [plainName, overriddenIn]; done) | decide +kernel
theorem own_pn2 : plainName "com/example/orderly_commit/orderlycommit/jdbc/StatementKind" = true := by first | (simp [plainName, overriddenIn]; done) | decide +kernel
set_option maxRecDepth 65536 in
set_option maxHeartbeats 40000000 in
theorem own_kind0 (l : Launch) (Z : State) (a0 : Array Value) (hw : ∀ d ∈ tables_1, d.before a0 Z = true) (ws : List Jvm.Cond) (u0 u1 u2 : Addr) (h0 : Heap) (n0 : Nat) (O : Ext Z.heap h0) (S_u0 : Sta Z Z.heap "com/example/orderly_commit/orderlycommit/jdbc/StatementKind" "ORDINARY" "Lcom/example/orderly_commit/orderlycommit/jdbc/StatementKind;" (.ref u0)) (S_u1 : Sta Z Z.heap "com/example/orderly_commit/orderlycommit/jdbc/StatementKind" "OTHER" "Lcom/example/orderly_commit/orderlycommit/jdbc/StatementKind;" (.ref u1)) (S_u2 : Sta Z Z.heap "com/example/orderly_commit/orderlycommit/jdbc/StatementKind" "TRANSACTION_CONTROL" "Lcom/example/orderly_commit/orderlycommit/jdbc/StatementKind;" (.ref u2)) :
    own_Met l Z (⟨"com/example/orderly_commit/orderlycommit/jdbc/StatementKindWeightierPinLaw", "kindOf", "(I)Lcom/example/orderly_commit/orderlycommit/jdbc/StatementKind;"⟩ : MethodName) method_3_code 1 (some (.object "com/example/orderly_commit/orderlycommit/jdbc/StatementKind")) ws ({ frames := 0, cells := 0, slots := 0, locals := 0 } : Room) #[(.int (0 : Int32))] h0 (fun v h L => v = some (.ref u0) ∧ Fr n0 L ∧ h = h0) := by
  refine MetFree.of_bodySF (plainFor_of_name own_pn0) hisR ?_
  intro p e s m args below meth c s₁ Bd hml0 hP hK
  obtain ⟨rfl, hZ, hh⟩ := hP
  have hx := Bd.exec
  have hby := Bd.bytes
  have hml : c.maxLocals = 1 := hml0
  have hown : s.vm.findClass "com/example/orderly_commit/orderlycommit/jdbc/StatementKindWeightierPinLaw" = some m.cls := findClass_of_methodNamed Bd.named
  have hnm := (name_of_methodNamed Bd.named Bd.method).1
  have X0 : Stand p l e ({ frames := 0, cells := 0, slots := 0, locals := 0 } : Room) s m #[(.int (0 : Int32))] below meth c s₁ [] 0 0 := Stand.of_body Bd
  have e0 : s₁.heap = h0 := by rw [← hh, Bd.state]; rfl
  have N0 := Fr.nil n0
  have ef : entryFrame m #[(.int (0 : Int32))] 1 = mkF m 0 #[.val (.int (0 : Int32))] [] := by first | (simp [entryFrame, mkF, argsToLocals, Value.category, maxLocals]; done) | rfl
  show own_End p e below _ (s₁.setTop (entryFrame m #[(.int (0 : Int32))] 1))
  refine own_by (fun _ k => castTop ef k) ?_
  show own_End p e below _ (s₁.setTop (mkF m 0 #[.val (.int (0 : Int32))] []))
  refine own_by (fun _ k => XS.iloadN X0.here hx rfl (hb hby own_d_method_3_0) rfl k) ?_
  show own_End p e below _ (s₁.setTop (mkF m 1 #[.val (.int (0 : Int32))] [(.int (0 : Int32))]))
  refine own_by (fun _ k => XS.ifNo X0.here hx rfl (hb hby own_d_method_3_1) rfl ((if0 _ _).trans (teq (by decide)).2) k) ?_
  show own_End p e below _ (s₁.setTop (mkF m 4 #[.val (.int (0 : Int32))] []))
  obtain ⟨T1, X1, e1, st1⟩ := getS2 X0 hx hZ hown (host := "") (Or.inl (hw _ (List.mem_of_getElem? (i := 5) rfl))) Via.refl e0 (S_u0.ext O) (g := (mkF m 4 #[.val (.int (0 : Int32))] [])) rfl (hb hby own_d_method_3_4)
  refine own_by st1 ?_
  show own_End p e below _ (T1.setTop (mkF m 7 #[.val (.int (0 : Int32))] [(.ref u0)]))
  obtain ⟨fs, hr, hrun, hended, hW, hsame⟩ := X1.leave (v := (some (.ref u0))) (fun h => by rw [Bd.returns] at h; cases h)
  refine ⟨_, _, retOut X1 hx Bd.returns rfl (Or.inr (Or.inr (Or.inr (Or.inr ⟨rfl, rfl, rfl⟩)))) (hb hby own_d_method_3_7) hr, hrun, hended, _, _, rfl, ?_, ⟨_, rfl⟩, hW, hsame.mono (by decide) (by decide)⟩
  exact ⟨rfl, N0, e1⟩
set_option maxRecDepth 65536 in
set_option maxHeartbeats 40000000 in
theorem own_kind1 (l : Launch) (Z : State) (a0 : Array Value) (hw : ∀ d ∈ tables_1, d.before a0 Z = true) (ws : List Jvm.Cond) (u0 u1 u2 : Addr) (h0 : Heap) (n0 : Nat) (O : Ext Z.heap h0) (S_u0 : Sta Z Z.heap "com/example/orderly_commit/orderlycommit/jdbc/StatementKind" "ORDINARY" "Lcom/example/orderly_commit/orderlycommit/jdbc/StatementKind;" (.ref u0)) (S_u1 : Sta Z Z.heap "com/example/orderly_commit/orderlycommit/jdbc/StatementKind" "OTHER" "Lcom/example/orderly_commit/orderlycommit/jdbc/StatementKind;" (.ref u1)) (S_u2 : Sta Z Z.heap "com/example/orderly_commit/orderlycommit/jdbc/StatementKind" "TRANSACTION_CONTROL" "Lcom/example/orderly_commit/orderlycommit/jdbc/StatementKind;" (.ref u2)) :
    own_Met l Z (⟨"com/example/orderly_commit/orderlycommit/jdbc/StatementKindWeightierPinLaw", "kindOf", "(I)Lcom/example/orderly_commit/orderlycommit/jdbc/StatementKind;"⟩ : MethodName) method_3_code 1 (some (.object "com/example/orderly_commit/orderlycommit/jdbc/StatementKind")) ws ({ frames := 0, cells := 0, slots := 0, locals := 0 } : Room) #[(.int (1 : Int32))] h0 (fun v h L => v = some (.ref u1) ∧ Fr n0 L ∧ h = h0) := by
  refine MetFree.of_bodySF (plainFor_of_name own_pn0) hisR ?_
  intro p e s m args below meth c s₁ Bd hml0 hP hK
  obtain ⟨rfl, hZ, hh⟩ := hP
  have hx := Bd.exec
  have hby := Bd.bytes
  have hml : c.maxLocals = 1 := hml0
  have hown : s.vm.findClass "com/example/orderly_commit/orderlycommit/jdbc/StatementKindWeightierPinLaw" = some m.cls := findClass_of_methodNamed Bd.named
  have hnm := (name_of_methodNamed Bd.named Bd.method).1
  have X0 : Stand p l e ({ frames := 0, cells := 0, slots := 0, locals := 0 } : Room) s m #[(.int (1 : Int32))] below meth c s₁ [] 0 0 := Stand.of_body Bd
  have e0 : s₁.heap = h0 := by rw [← hh, Bd.state]; rfl
  have N0 := Fr.nil n0
  have ef : entryFrame m #[(.int (1 : Int32))] 1 = mkF m 0 #[.val (.int (1 : Int32))] [] := by first | (simp [entryFrame, mkF, argsToLocals, Value.category, maxLocals]; done) | rfl
  show own_End p e below _ (s₁.setTop (entryFrame m #[(.int (1 : Int32))] 1))
  refine own_by (fun _ k => castTop ef k) ?_
  show own_End p e below _ (s₁.setTop (mkF m 0 #[.val (.int (1 : Int32))] []))
  refine own_by (fun _ k => XS.iloadN X0.here hx rfl (hb hby own_d_method_3_0) rfl k) ?_
  show own_End p e below _ (s₁.setTop (mkF m 1 #[.val (.int (1 : Int32))] [(.int (1 : Int32))]))
  refine own_by (fun _ k => XS.ifYes X0.here hx rfl (pc0 := 1) (pc' := 8) rfl (hb hby own_d_method_3_1) rfl ((if0 _ _).trans (feq (by decide)).2) (by decide) (by decide) k) ?_
  show own_End p e below _ (s₁.setTop (mkF m 8 #[.val (.int (1 : Int32))] []))
  refine own_by (fun _ k => XS.iloadN X0.here hx rfl (hb hby own_d_method_3_8) rfl k) ?_
  show own_End p e below _ (s₁.setTop (mkF m 9 #[.val (.int (1 : Int32))] [(.int (1 : Int32))]))
  refine own_by (fun _ k => XS.iconst X0.here hx rfl (hb hby own_d_method_3_9) k) ?_
  show own_End p e below _ (s₁.setTop (mkF m 10 #[.val (.int (1 : Int32))] [(.int (1 : Int32)), (.int (1 : Int32))]))
  refine own_by (fun _ k => XS.icmpNo X0.here hx rfl (hb hby own_d_method_3_10) rfl (teq (by decide)).2 k) ?_
  show own_End p e below _ (s₁.setTop (mkF m 13 #[.val (.int (1 : Int32))] []))
  obtain ⟨T2, X2, e2, st2⟩ := getS2 X0 hx hZ hown (host := "") (Or.inl (hw _ (List.mem_of_getElem? (i := 32) rfl))) Via.refl e0 (S_u1.ext O) (g := (mkF m 13 #[.val (.int (1 : Int32))] [])) rfl (hb hby own_d_method_3_13)
  refine own_by st2 ?_
  show own_End p e below _ (T2.setTop (mkF m 16 #[.val (.int (1 : Int32))] [(.ref u1)]))
  obtain ⟨fs, hr, hrun, hended, hW, hsame⟩ := X2.leave (v := (some (.ref u1))) (fun h => by rw [Bd.returns] at h; cases h)
  refine ⟨_, _, retOut X2 hx Bd.returns rfl (Or.inr (Or.inr (Or.inr (Or.inr ⟨rfl, rfl, rfl⟩)))) (hb hby own_d_method_3_16) hr, hrun, hended, _, _, rfl, ?_, ⟨_, rfl⟩, hW, hsame.mono (by decide) (by decide)⟩
  exact ⟨rfl, N0, e2⟩
set_option maxRecDepth 65536 in
set_option maxHeartbeats 40000000 in
theorem own_kind2 (l : Launch) (Z : State) (a0 : Array Value) (hw : ∀ d ∈ tables_1, d.before a0 Z = true) (ws : List Jvm.Cond) (u0 u1 u2 : Addr) (h0 : Heap) (n0 : Nat) (O : Ext Z.heap h0) (S_u0 : Sta Z Z.heap "com/example/orderly_commit/orderlycommit/jdbc/StatementKind" "ORDINARY" "Lcom/example/orderly_commit/orderlycommit/jdbc/StatementKind;" (.ref u0)) (S_u1 : Sta Z Z.heap "com/example/orderly_commit/orderlycommit/jdbc/StatementKind" "OTHER" "Lcom/example/orderly_commit/orderlycommit/jdbc/StatementKind;" (.ref u1)) (S_u2 : Sta Z Z.heap "com/example/orderly_commit/orderlycommit/jdbc/StatementKind" "TRANSACTION_CONTROL" "Lcom/example/orderly_commit/orderlycommit/jdbc/StatementKind;" (.ref u2)) :
    own_Met l Z (⟨"com/example/orderly_commit/orderlycommit/jdbc/StatementKindWeightierPinLaw", "kindOf", "(I)Lcom/example/orderly_commit/orderlycommit/jdbc/StatementKind;"⟩ : MethodName) method_3_code 1 (some (.object "com/example/orderly_commit/orderlycommit/jdbc/StatementKind")) ws ({ frames := 0, cells := 0, slots := 0, locals := 0 } : Room) #[(.int (2 : Int32))] h0 (fun v h L => v = some (.ref u2) ∧ Fr n0 L ∧ h = h0) := by
  refine MetFree.of_bodySF (plainFor_of_name own_pn0) hisR ?_
  intro p e s m args below meth c s₁ Bd hml0 hP hK
  obtain ⟨rfl, hZ, hh⟩ := hP
  have hx := Bd.exec
  have hby := Bd.bytes
  have hml : c.maxLocals = 1 := hml0
  have hown : s.vm.findClass "com/example/orderly_commit/orderlycommit/jdbc/StatementKindWeightierPinLaw" = some m.cls := findClass_of_methodNamed Bd.named
  have hnm := (name_of_methodNamed Bd.named Bd.method).1
  have X0 : Stand p l e ({ frames := 0, cells := 0, slots := 0, locals := 0 } : Room) s m #[(.int (2 : Int32))] below meth c s₁ [] 0 0 := Stand.of_body Bd
  have e0 : s₁.heap = h0 := by rw [← hh, Bd.state]; rfl
  have N0 := Fr.nil n0
  have ef : entryFrame m #[(.int (2 : Int32))] 1 = mkF m 0 #[.val (.int (2 : Int32))] [] := by first | (simp [entryFrame, mkF, argsToLocals, Value.category, maxLocals]; done) | rfl
  show own_End p e below _ (s₁.setTop (entryFrame m #[(.int (2 : Int32))] 1))
  refine own_by (fun _ k => castTop ef k) ?_
  show own_End p e below _ (s₁.setTop (mkF m 0 #[.val (.int (2 : Int32))] []))
  refine own_by (fun _ k => XS.iloadN X0.here hx rfl (hb hby own_d_method_3_0) rfl k) ?_
  show own_End p e below _ (s₁.setTop (mkF m 1 #[.val (.int (2 : Int32))] [(.int (2 : Int32))]))
  refine own_by (fun _ k => XS.ifYes X0.here hx rfl (pc0 := 1) (pc' := 8) rfl (hb hby own_d_method_3_1) rfl ((if0 _ _).trans (feq (by decide)).2) (by decide) (by decide) k) ?_
  show own_End p e below _ (s₁.setTop (mkF m 8 #[.val (.int (2 : Int32))] []))
  refine own_by (fun _ k => XS.iloadN X0.here hx rfl (hb hby own_d_method_3_8) rfl k) ?_
  show own_End p e below _ (s₁.setTop (mkF m 9 #[.val (.int (2 : Int32))] [(.int (2 : Int32))]))
  refine own_by (fun _ k => XS.iconst X0.here hx rfl (hb hby own_d_method_3_9) k) ?_
  show own_End p e below _ (s₁.setTop (mkF m 10 #[.val (.int (2 : Int32))] [(.int (1 : Int32)), (.int (2 : Int32))]))
  refine own_by (fun _ k => XS.icmpYes X0.here hx rfl (pc0 := 10) (pc' := 17) rfl (hb hby own_d_method_3_10) rfl (feq (by decide)).2 (by decide) (by decide) k) ?_
  show own_End p e below _ (s₁.setTop (mkF m 17 #[.val (.int (2 : Int32))] []))
  obtain ⟨T3, X3, e3, st3⟩ := getS2 X0 hx hZ hown (host := "") (Or.inl (hw _ (List.mem_of_getElem? (i := 30) rfl))) Via.refl e0 (S_u2.ext O) (g := (mkF m 17 #[.val (.int (2 : Int32))] [])) rfl (hb hby own_d_method_3_17)
  refine own_by st3 ?_
  show own_End p e below _ (T3.setTop (mkF m 20 #[.val (.int (2 : Int32))] [(.ref u2)]))
  obtain ⟨fs, hr, hrun, hended, hW, hsame⟩ := X3.leave (v := (some (.ref u2))) (fun h => by rw [Bd.returns] at h; cases h)
  refine ⟨_, _, retOut X3 hx Bd.returns rfl (Or.inr (Or.inr (Or.inr (Or.inr ⟨rfl, rfl, rfl⟩)))) (hb hby own_d_method_3_20) hr, hrun, hended, _, _, rfl, ?_, ⟨_, rfl⟩, hW, hsame.mono (by decide) (by decide)⟩
  exact ⟨rfl, N0, e3⟩
set_option maxRecDepth 65536 in
set_option maxHeartbeats 40000000 in
theorem own_cmp (l : Launch) (Z : State) (a0 : Array Value) (hw : ∀ d ∈ tables_1, d.before a0 Z = true) (ws : List Jvm.Cond) (a b : Addr) (oa ob : Int32) (h0 : Heap) (n0 : Nat) (O : Ext Z.heap h0) (E_a : Exa Z Z.heap a "com/example/orderly_commit/orderlycommit/jdbc/StatementKind") (E_b : Exa Z Z.heap b "com/example/orderly_commit/orderlycommit/jdbc/StatementKind") (F_a : Fld Z Z.heap a "java/lang/Enum" "ordinal" "I" (.int oa)) (F_b : Fld Z Z.heap b "java/lang/Enum" "ordinal" "I" (.int ob)) (hM : MirrorMade Z "com/example/orderly_commit/orderlycommit/jdbc/StatementKind") :
    own_Met l Z (⟨"java/lang/Enum", "compareTo", "(Ljava/lang/Enum;)I"⟩ : MethodName) jdk_37_method_8_code 4 (some .int) ws ({ frames := 1, cells := 0, slots := 0, locals := 16 } : Room) #[(.ref b), (.ref a)] h0 (fun v h L => v = some (.int (ob - oa)) ∧ Fr n0 L ∧ h = h0) := by
  refine MetFree.of_bodySF (plainFor_of_name own_pn1) hisR ?_
  intro p e s m args below meth c s₁ Bd hml0 hP hK
  obtain ⟨rfl, hZ, hh⟩ := hP
  have hx := Bd.exec
  have hby := Bd.bytes
  have hml : c.maxLocals = 4 := hml0
  have hown : s.vm.findClass "java/lang/Enum" = some m.cls := findClass_of_methodNamed Bd.named
  have hnm := (name_of_methodNamed Bd.named Bd.method).1
  have X0 : Stand p l e ({ frames := 1, cells := 0, slots := 0, locals := 16 } : Room) s m #[(.ref b), (.ref a)] below meth c s₁ [] 0 0 := Stand.of_body Bd
  have e0 : s₁.heap = h0 := by rw [← hh, Bd.state]; rfl
  have N0 := Fr.nil n0
  obtain ⟨cc, kc, mr, m1, m2, m3, -⟩ := hM
  have ef : entryFrame m #[(.ref b), (.ref a)] 4 = mkF m 0 #[.val (.ref b), .val (.ref a), .unset, .unset] [] := by first | (simp [entryFrame, mkF, argsToLocals, Value.category, maxLocals]; done) | rfl
  show own_End p e below _ (s₁.setTop (entryFrame m #[(.ref b), (.ref a)] 4))
  refine own_by (fun _ k => castTop ef k) ?_
  show own_End p e below _ (s₁.setTop (mkF m 0 #[.val (.ref b), .val (.ref a), .unset, .unset] []))
  refine own_by (fun _ k => XS.aloadN X0.here hx rfl (hb hby own_d_jdk_37_method_8_0) rfl rfl k) ?_
  show own_End p e below _ (s₁.setTop (mkF m 1 #[.val (.ref b), .val (.ref a), .unset, .unset] [(.ref a)]))
  refine own_by (fun _ k => XS.astoreN X0.here hx rfl (hb hby own_d_jdk_37_method_8_1) rfl rfl (l' := #[.val (.ref b), .val (.ref a), .val (.ref a), .unset]) rfl k) ?_
  show own_End p e below _ (s₁.setTop (mkF m 2 #[.val (.ref b), .val (.ref a), .val (.ref a), .unset] []))
  refine own_by (fun _ k => XS.aloadN X0.here hx rfl (hb hby own_d_jdk_37_method_8_2) rfl rfl k) ?_
  show own_End p e below _ (s₁.setTop (mkF m 3 #[.val (.ref b), .val (.ref a), .val (.ref a), .unset] [(.ref b)]))
  refine own_by (fun _ k => XS.astoreN X0.here hx rfl (hb hby own_d_jdk_37_method_8_3) rfl rfl (l' := #[.val (.ref b), .val (.ref a), .val (.ref a), .val (.ref b)]) rfl k) ?_
  show own_End p e below _ (s₁.setTop (mkF m 4 #[.val (.ref b), .val (.ref a), .val (.ref a), .val (.ref b)] []))
  refine own_by (fun _ k => XS.aloadN X0.here hx rfl (hb hby own_d_jdk_37_method_8_4) rfl rfl k) ?_
  show own_End p e below _ (s₁.setTop (mkF m 5 #[.val (.ref b), .val (.ref a), .val (.ref a), .val (.ref b)] [(.ref b)]))
  obtain ⟨T4, X4, e4, st4⟩ := own_gcls X0 hx hZ hown (hw _ (List.mem_of_getElem? (i := 18) rfl)) (hw _ (List.mem_of_getElem? (i := 19) rfl)) (hw _ (List.mem_of_getElem? (i := 21) rfl)) (hw _ (List.mem_of_getElem? (i := 20) rfl)) (hw _ (List.mem_of_getElem? (i := 22) rfl)) e0 (E_b.ext O) m1 m2 m3 (g := (mkF m 5 #[.val (.ref b), .val (.ref a), .val (.ref a), .val (.ref b)] [(.ref b)])) rfl (by rw [hml]; rfl) rfl (hb hby own_d_jdk_37_method_8_5) (by decide) (Nat.le_of_ble_eq_true rfl)
  refine own_by st4 ?_
  show own_End p e below _ (T4.setTop (mkF m 8 #[.val (.ref b), .val (.ref a), .val (.ref a), .val (.ref b)] [(.ref mr)]))
  refine own_by (fun _ k => XS.aloadN X4.here hx rfl (hb hby own_d_jdk_37_method_8_8) rfl rfl k) ?_
  show own_End p e below _ (T4.setTop (mkF m 9 #[.val (.ref b), .val (.ref a), .val (.ref a), .val (.ref b)] [(.ref a), (.ref mr)]))
  obtain ⟨T5, X5, e5, st5⟩ := own_gcls X4 hx hZ hown (hw _ (List.mem_of_getElem? (i := 18) rfl)) (hw _ (List.mem_of_getElem? (i := 19) rfl)) (hw _ (List.mem_of_getElem? (i := 21) rfl)) (hw _ (List.mem_of_getElem? (i := 20) rfl)) (hw _ (List.mem_of_getElem? (i := 22) rfl)) e4 (E_a.ext O) m1 m2 m3 (g := (mkF m 9 #[.val (.ref b), .val (.ref a), .val (.ref a), .val (.ref b)] [(.ref a), (.ref mr)])) rfl (by rw [hml]; rfl) rfl (hb hby own_d_jdk_37_method_8_9) (by decide) (Nat.le_of_ble_eq_true rfl)
  refine own_by st5 ?_
  show own_End p e below _ (T5.setTop (mkF m 12 #[.val (.ref b), .val (.ref a), .val (.ref a), .val (.ref b)] [(.ref mr), (.ref mr)]))
  refine own_by (fun _ k => Jvm.RoadKit.acmp (g := (mkF m 12 #[.val (.ref b), .val (.ref a), .val (.ref a), .val (.ref b)] [(.ref mr), (.ref mr)])) X5 hx rfl rfl rfl (pc0 := 12) (pc' := 34) (same := true) rfl (hb hby own_d_jdk_37_method_8_12) rfl (decide_eq_true rfl) (by decide) (by decide) k) ?_
  show own_End p e below _ (T5.setTop (mkF m 34 #[.val (.ref b), .val (.ref a), .val (.ref a), .val (.ref b)] []))
  refine own_by (fun _ k => XS.aloadN X5.here hx rfl (hb hby own_d_jdk_37_method_8_34) rfl rfl k) ?_
  show own_End p e below _ (T5.setTop (mkF m 35 #[.val (.ref b), .val (.ref a), .val (.ref a), .val (.ref b)] [(.ref b)]))
  obtain ⟨T6, X6, e6, st6⟩ := getF X5 hx hZ hown (host := "") (Or.inl (hw _ (List.mem_of_getElem? (i := 24) rfl))) Via.refl e5 (F_b.ext O) (g := (mkF m 35 #[.val (.ref b), .val (.ref a), .val (.ref a), .val (.ref b)] [(.ref b)])) rfl rfl (hb hby own_d_jdk_37_method_8_35)
  refine own_by st6 ?_
  show own_End p e below _ (T6.setTop (mkF m 38 #[.val (.ref b), .val (.ref a), .val (.ref a), .val (.ref b)] [(.int ob)]))
  refine own_by (fun _ k => XS.aloadN X6.here hx rfl (hb hby own_d_jdk_37_method_8_38) rfl rfl k) ?_
  show own_End p e below _ (T6.setTop (mkF m 39 #[.val (.ref b), .val (.ref a), .val (.ref a), .val (.ref b)] [(.ref a), (.int ob)]))
  obtain ⟨T7, X7, e7, st7⟩ := getF X6 hx hZ hown (host := "") (Or.inl (hw _ (List.mem_of_getElem? (i := 24) rfl))) Via.refl e6 (F_a.ext O) (g := (mkF m 39 #[.val (.ref b), .val (.ref a), .val (.ref a), .val (.ref b)] [(.ref a), (.int ob)])) rfl rfl (hb hby own_d_jdk_37_method_8_39)
  refine own_by st7 ?_
  show own_End p e below _ (T7.setTop (mkF m 42 #[.val (.ref b), .val (.ref a), .val (.ref a), .val (.ref b)] [(.int oa), (.int ob)]))
  refine own_by (fun _ k => XS.isub X7.here hx rfl (hb hby own_d_jdk_37_method_8_42) rfl k) ?_
  show own_End p e below _ (T7.setTop (mkF m 43 #[.val (.ref b), .val (.ref a), .val (.ref a), .val (.ref b)] [(.int (ob - oa))]))
  obtain ⟨fs, hr, hrun, hended, hW, hsame⟩ := X7.leave (v := (some (.int (ob - oa)))) (fun h => by rw [Bd.returns] at h; cases h)
  refine ⟨_, _, retOut X7 hx Bd.returns rfl (Or.inl ⟨rfl, Or.inl rfl, _, rfl⟩) (hb hby own_d_jdk_37_method_8_43) hr, hrun, hended, _, _, rfl, ?_, ⟨_, rfl⟩, hW, hsame.mono (by decide) (by decide)⟩
  exact ⟨rfl, N0, e7⟩
set_option maxRecDepth 65536 in
set_option maxHeartbeats 40000000 in
theorem own_wei (l : Launch) (Z : State) (a0 : Array Value) (hw : ∀ d ∈ tables_1, d.before a0 Z = true) (ws : List Jvm.Cond) (a b r : Addr) (oa ob : Int32) (h0 : Heap) (n0 : Nat) (O : Ext Z.heap h0) (E_a : Exa Z Z.heap a "com/example/orderly_commit/orderlycommit/jdbc/StatementKind") (E_b : Exa Z Z.heap b "com/example/orderly_commit/orderlycommit/jdbc/StatementKind") (F_a : Fld Z Z.heap a "java/lang/Enum" "ordinal" "I" (.int oa)) (F_b : Fld Z Z.heap b "java/lang/Enum" "ordinal" "I" (.int ob)) (hM : MirrorMade Z "com/example/orderly_commit/orderlycommit/jdbc/StatementKind") (hres : ((0 : Int32) < ob - oa ∧ r = b) ∨ (¬ (0 : Int32) < ob - oa ∧ r = a)) :
    own_Met l Z (⟨"com/example/orderly_commit/orderlycommit/jdbc/StatementKind", "weightier", "(Lcom/example/orderly_commit/orderlycommit/jdbc/StatementKind;Lcom/example/orderly_commit/orderlycommit/jdbc/StatementKind;)Lcom/example/orderly_commit/orderlycommit/jdbc/StatementKind;"⟩ : MethodName) prog_33_method_5_code 2 (some (.object "com/example/orderly_commit/orderlycommit/jdbc/StatementKind")) ws ({ frames := 2, cells := 0, slots := 0, locals := 31 } : Room) #[(.ref a), (.ref b)] h0 (fun v h L => v = some (.ref r) ∧ Fr n0 L ∧ h = h0) := by
  refine MetFree.of_bodySF (plainFor_of_name own_pn2) hisR ?_
  intro p e s m args below meth c s₁ Bd hml0 hP hK
  obtain ⟨rfl, hZ, hh⟩ := hP
  have hx := Bd.exec
  have hby := Bd.bytes
  have hml : c.maxLocals = 2 := hml0
  have hown : s.vm.findClass "com/example/orderly_commit/orderlycommit/jdbc/StatementKind" = some m.cls := findClass_of_methodNamed Bd.named
  have hnm := (name_of_methodNamed Bd.named Bd.method).1
  have X0 : Stand p l e ({ frames := 2, cells := 0, slots := 0, locals := 31 } : Room) s m #[(.ref a), (.ref b)] below meth c s₁ [] 0 0 := Stand.of_body Bd
  have e0 : s₁.heap = h0 := by rw [← hh, Bd.state]; rfl
  have N0 := Fr.nil n0
  have ef : entryFrame m #[(.ref a), (.ref b)] 2 = mkF m 0 #[.val (.ref a), .val (.ref b)] [] := by first | (simp [entryFrame, mkF, argsToLocals, Value.category, maxLocals]; done) | rfl
  show own_End p e below _ (s₁.setTop (entryFrame m #[(.ref a), (.ref b)] 2))
  refine own_by (fun _ k => castTop ef k) ?_
  show own_End p e below _ (s₁.setTop (mkF m 0 #[.val (.ref a), .val (.ref b)] []))
  refine own_by (fun _ k => XS.aloadN X0.here hx rfl (hb hby own_d_prog_33_method_5_0) rfl rfl k) ?_
  show own_End p e below _ (s₁.setTop (mkF m 1 #[.val (.ref a), .val (.ref b)] [(.ref b)]))
  refine own_by (fun _ k => XS.aloadN X0.here hx rfl (hb hby own_d_prog_33_method_5_1) rfl rfl k) ?_
  show own_End p e below _ (s₁.setTop (mkF m 2 #[.val (.ref a), .val (.ref b)] [(.ref a), (.ref b)]))
  obtain ⟨cq8, kq8, q8a, q8b, q8c⟩ := isOf hZ e0 (E_b.ext O)
  obtain ⟨_, _, ⟨T8, L8, k8, n8⟩, -, X8, ⟨Lc8, hQ8, l8, y8, z8⟩, st8⟩ := X0.virtualBackUp hx (owner := "java/lang/Enum") (x := (⟨"com/example/orderly_commit/orderlycommit/jdbc/StatementKind", "compareTo", "(Ljava/lang/Enum;)I"⟩ : MethodName)) (y := (⟨"java/lang/Enum", "compareTo", "(Ljava/lang/Enum;)I"⟩ : MethodName)) hown (mvT hZ (hw _ (List.mem_of_getElem? (i := 11) rfl))) (mvT hZ (hw _ (List.mem_of_getElem? (i := 12) rfl))) (mvT hZ (hw _ (List.mem_of_getElem? (i := 13) rfl))) (by decide) (mvT hZ (hw _ (List.mem_of_getElem? (i := 15) rfl))) (mvT hZ (hw _ (List.mem_of_getElem? (i := 14) rfl))) (own_back (W := 0) (own_cmp l Z a0 hw [] a b oa ob h0 n0 O E_a E_b F_a F_b hM) hZ (hw _ (List.mem_of_getElem? (i := 17) rfl)) (hw _ (List.mem_of_getElem? (i := 16) rfl)) (by decide) (by decide)) q8a q8c (g := (mkF m 2 #[.val (.ref a), .val (.ref b)] [(.ref a), (.ref b)])) rfl (by rw [hml]; rfl) (Steps.refl _) (argsL := [(.ref a)]) (rest := []) (lenOf own_pd0 rfl) rfl (by show 2 * 0 + _ ≤ _; exact Nat.le_of_eq rfl) (hb hby own_d_prog_33_method_5_2) (fun _ _ => ⟨rfl, e0, (by decide : 0 + 0 ≤ _), (by decide : 0 + 0 ≤ _)⟩)
  dsimp only [Pt.U, Pt.locs, Pt.cells, Pt.slots] at X8 l8 y8 z8 st8 hQ8
  subst l8 y8 z8
  obtain ⟨rfl, N8q, e8⟩ := hQ8
  have N8 := Fr.app N0 N8q
  refine own_by (fun _ k => st8.trans k) ?_
  show own_End p e below _ (T8.setTop (mkF m 5 #[.val (.ref a), .val (.ref b)] [(.int (ob - oa))]))
  rcases Decidable.em ((0 : Int32) < (ob - oa)) with hc5_9 | hc5_9
  · -- 5 True
    refine own_by (fun _ k => XS.ifNo X8.here hx rfl (hb hby own_d_prog_33_method_5_5) rfl ((if0 _ _).trans (tlt hc5_9).2.2.2) k) ?_
    show own_End p e below _ (T8.setTop (mkF m 8 #[.val (.ref a), .val (.ref b)] []))
    refine own_by (fun _ k => XS.aloadN X8.here hx rfl (hb hby own_d_prog_33_method_5_8) rfl rfl k) ?_
    show own_End p e below _ (T8.setTop (mkF m 9 #[.val (.ref a), .val (.ref b)] [(.ref b)]))
    refine own_by (fun _ k => XS.goto X8.here hx rfl (pc0 := 9) (pc' := 13) rfl (hb hby own_d_prog_33_method_5_9) (by decide) (by decide) k) ?_
    show own_End p e below _ (T8.setTop (mkF m 13 #[.val (.ref a), .val (.ref b)] [(.ref b)]))
    obtain ⟨fs, hr, hrun, hended, hW, hsame⟩ := X8.leave (v := (some (.ref b))) (fun h => by rw [Bd.returns] at h; cases h)
    refine ⟨_, _, retOut X8 hx Bd.returns rfl (Or.inr (Or.inr (Or.inr (Or.inr ⟨rfl, rfl, rfl⟩)))) (hb hby own_d_prog_33_method_5_13) hr, hrun, hended, _, _, rfl, ?_, ⟨_, rfl⟩, hW, hsame.mono (by decide) (by decide)⟩
    refine ⟨?_, N8, e8⟩
    rcases hres with ⟨q1, rfl⟩ | ⟨q1, rfl⟩
    · rfl
    · exact absurd hc5_9 q1
  · -- 5 False
    refine own_by (fun _ k => XS.ifYes X8.here hx rfl (pc0 := 5) (pc' := 12) rfl (hb hby own_d_prog_33_method_5_5) rfl ((if0 _ _).trans (flt hc5_9).2.2.2) (by decide) (by decide) k) ?_
    show own_End p e below _ (T8.setTop (mkF m 12 #[.val (.ref a), .val (.ref b)] []))
    refine own_by (fun _ k => XS.aloadN X8.here hx rfl (hb hby own_d_prog_33_method_5_12) rfl rfl k) ?_
    show own_End p e below _ (T8.setTop (mkF m 13 #[.val (.ref a), .val (.ref b)] [(.ref a)]))
    obtain ⟨fs, hr, hrun, hended, hW, hsame⟩ := X8.leave (v := (some (.ref a))) (fun h => by rw [Bd.returns] at h; cases h)
    refine ⟨_, _, retOut X8 hx Bd.returns rfl (Or.inr (Or.inr (Or.inr (Or.inr ⟨rfl, rfl, rfl⟩)))) (hb hby own_d_prog_33_method_5_13) hr, hrun, hended, _, _, rfl, ?_, ⟨_, rfl⟩, hW, hsame.mono (by decide) (by decide)⟩
    refine ⟨?_, N8, e8⟩
    rcases hres with ⟨q1, rfl⟩ | ⟨q1, rfl⟩
    · exact absurd q1 hc5_9
    · rfl
set_option maxRecDepth 65536 in
set_option maxHeartbeats 40000000 in
theorem own_max00 (l : Launch) (Z : State) (a0 : Array Value) (hw : ∀ d ∈ tables_1, d.before a0 Z = true) (ws : List Jvm.Cond)  (h0 : Heap) (n0 : Nat) :
    own_Met l Z (⟨"java/lang/Math", "max", "(II)I"⟩ : MethodName) jdk_29_method_65_code 2 (some .int) ws ({ frames := 0, cells := 0, slots := 0, locals := 0 } : Room) #[(.int (0 : Int32)), (.int (0 : Int32))] h0 (fun v h L => v = some (.int (0 : Int32)) ∧ Fr n0 L ∧ h = h0) := by
  refine MetFree.of_bodySF (Jvm.Free.JP.mathPlain rfl (by decide +kernel)) hisR ?_
  intro p e s m args below meth c s₁ Bd hml0 hP hK
  obtain ⟨rfl, hZ, hh⟩ := hP
  have hx := Bd.exec
  have hby := Bd.bytes
  have hml : c.maxLocals = 2 := hml0
  have hown : s.vm.findClass "java/lang/Math" = some m.cls := findClass_of_methodNamed Bd.named
  have hnm := (name_of_methodNamed Bd.named Bd.method).1
  have X0 : Stand p l e ({ frames := 0, cells := 0, slots := 0, locals := 0 } : Room) s m #[(.int (0 : Int32)), (.int (0 : Int32))] below meth c s₁ [] 0 0 := Stand.of_body Bd
  have e0 : s₁.heap = h0 := by rw [← hh, Bd.state]; rfl
  have N0 := Fr.nil n0
  have ef : entryFrame m #[(.int (0 : Int32)), (.int (0 : Int32))] 2 = mkF m 0 #[.val (.int (0 : Int32)), .val (.int (0 : Int32))] [] := by first | (simp [entryFrame, mkF, argsToLocals, Value.category, maxLocals]; done) | rfl
  show own_End p e below _ (s₁.setTop (entryFrame m #[(.int (0 : Int32)), (.int (0 : Int32))] 2))
  refine own_by (fun _ k => castTop ef k) ?_
  show own_End p e below _ (s₁.setTop (mkF m 0 #[.val (.int (0 : Int32)), .val (.int (0 : Int32))] []))
  refine own_by (fun _ k => XS.iloadN X0.here hx rfl (hb hby own_d_jdk_29_method_65_0) rfl k) ?_
  show own_End p e below _ (s₁.setTop (mkF m 1 #[.val (.int (0 : Int32)), .val (.int (0 : Int32))] [(.int (0 : Int32))]))
  refine own_by (fun _ k => XS.iloadN X0.here hx rfl (hb hby own_d_jdk_29_method_65_1) rfl k) ?_
  show own_End p e below _ (s₁.setTop (mkF m 2 #[.val (.int (0 : Int32)), .val (.int (0 : Int32))] [(.int (0 : Int32)), (.int (0 : Int32))]))
  refine own_by (fun _ k => XS.icmpNo X0.here hx rfl (hb hby own_d_jdk_29_method_65_2) rfl (flt (by decide)).1 k) ?_
  show own_End p e below _ (s₁.setTop (mkF m 5 #[.val (.int (0 : Int32)), .val (.int (0 : Int32))] []))
  refine own_by (fun _ k => XS.iloadN X0.here hx rfl (hb hby own_d_jdk_29_method_65_5) rfl k) ?_
  show own_End p e below _ (s₁.setTop (mkF m 6 #[.val (.int (0 : Int32)), .val (.int (0 : Int32))] [(.int (0 : Int32))]))
  refine own_by (fun _ k => XS.goto X0.here hx rfl (pc0 := 6) (pc' := 10) rfl (hb hby own_d_jdk_29_method_65_6) (by decide) (by decide) k) ?_
  show own_End p e below _ (s₁.setTop (mkF m 10 #[.val (.int (0 : Int32)), .val (.int (0 : Int32))] [(.int (0 : Int32))]))
  obtain ⟨fs, hr, hrun, hended, hW, hsame⟩ := X0.leave (v := (some (.int (0 : Int32)))) (fun h => by rw [Bd.returns] at h; cases h)
  refine ⟨_, _, retOut X0 hx Bd.returns rfl (Or.inl ⟨rfl, Or.inl rfl, _, rfl⟩) (hb hby own_d_jdk_29_method_65_10) hr, hrun, hended, _, _, rfl, ?_, ⟨_, rfl⟩, hW, hsame.mono (by decide) (by decide)⟩
  exact ⟨rfl, N0, e0⟩
set_option maxRecDepth 65536 in
set_option maxHeartbeats 40000000 in
theorem own_max01 (l : Launch) (Z : State) (a0 : Array Value) (hw : ∀ d ∈ tables_1, d.before a0 Z = true) (ws : List Jvm.Cond)  (h0 : Heap) (n0 : Nat) :
    own_Met l Z (⟨"java/lang/Math", "max", "(II)I"⟩ : MethodName) jdk_29_method_65_code 2 (some .int) ws ({ frames := 0, cells := 0, slots := 0, locals := 0 } : Room) #[(.int (0 : Int32)), (.int (1 : Int32))] h0 (fun v h L => v = some (.int (1 : Int32)) ∧ Fr n0 L ∧ h = h0) := by
  refine MetFree.of_bodySF (Jvm.Free.JP.mathPlain rfl (by decide +kernel)) hisR ?_
  intro p e s m args below meth c s₁ Bd hml0 hP hK
  obtain ⟨rfl, hZ, hh⟩ := hP
  have hx := Bd.exec
  have hby := Bd.bytes
  have hml : c.maxLocals = 2 := hml0
  have hown : s.vm.findClass "java/lang/Math" = some m.cls := findClass_of_methodNamed Bd.named
  have hnm := (name_of_methodNamed Bd.named Bd.method).1
  have X0 : Stand p l e ({ frames := 0, cells := 0, slots := 0, locals := 0 } : Room) s m #[(.int (0 : Int32)), (.int (1 : Int32))] below meth c s₁ [] 0 0 := Stand.of_body Bd
  have e0 : s₁.heap = h0 := by rw [← hh, Bd.state]; rfl
  have N0 := Fr.nil n0
  have ef : entryFrame m #[(.int (0 : Int32)), (.int (1 : Int32))] 2 = mkF m 0 #[.val (.int (0 : Int32)), .val (.int (1 : Int32))] [] := by first | (simp [entryFrame, mkF, argsToLocals, Value.category, maxLocals]; done) | rfl
  show own_End p e below _ (s₁.setTop (entryFrame m #[(.int (0 : Int32)), (.int (1 : Int32))] 2))
  refine own_by (fun _ k => castTop ef k) ?_
  show own_End p e below _ (s₁.setTop (mkF m 0 #[.val (.int (0 : Int32)), .val (.int (1 : Int32))] []))
  refine own_by (fun _ k => XS.iloadN X0.here hx rfl (hb hby own_d_jdk_29_method_65_0) rfl k) ?_
  show own_End p e below _ (s₁.setTop (mkF m 1 #[.val (.int (0 : Int32)), .val (.int (1 : Int32))] [(.int (0 : Int32))]))
  refine own_by (fun _ k => XS.iloadN X0.here hx rfl (hb hby own_d_jdk_29_method_65_1) rfl k) ?_
  show own_End p e below _ (s₁.setTop (mkF m 2 #[.val (.int (0 : Int32)), .val (.int (1 : Int32))] [(.int (1 : Int32)), (.int (0 : Int32))]))
  refine own_by (fun _ k => XS.icmpYes X0.here hx rfl (pc0 := 2) (pc' := 9) rfl (hb hby own_d_jdk_29_method_65_2) rfl (tlt (by decide)).1 (by decide) (by decide) k) ?_
  show own_End p e below _ (s₁.setTop (mkF m 9 #[.val (.int (0 : Int32)), .val (.int (1 : Int32))] []))
  refine own_by (fun _ k => XS.iloadN X0.here hx rfl (hb hby own_d_jdk_29_method_65_9) rfl k) ?_
  show own_End p e below _ (s₁.setTop (mkF m 10 #[.val (.int (0 : Int32)), .val (.int (1 : Int32))] [(.int (1 : Int32))]))
  obtain ⟨fs, hr, hrun, hended, hW, hsame⟩ := X0.leave (v := (some (.int (1 : Int32)))) (fun h => by rw [Bd.returns] at h; cases h)
  refine ⟨_, _, retOut X0 hx Bd.returns rfl (Or.inl ⟨rfl, Or.inl rfl, _, rfl⟩) (hb hby own_d_jdk_29_method_65_10) hr, hrun, hended, _, _, rfl, ?_, ⟨_, rfl⟩, hW, hsame.mono (by decide) (by decide)⟩
  exact ⟨rfl, N0, e0⟩
set_option maxRecDepth 65536 in
set_option maxHeartbeats 40000000 in
theorem own_max02 (l : Launch) (Z : State) (a0 : Array Value) (hw : ∀ d ∈ tables_1, d.before a0 Z = true) (ws : List Jvm.Cond)  (h0 : Heap) (n0 : Nat) :
    own_Met l Z (⟨"java/lang/Math", "max", "(II)I"⟩ : MethodName) jdk_29_method_65_code 2 (some .int) ws ({ frames := 0, cells := 0, slots := 0, locals := 0 } : Room) #[(.int (0 : Int32)), (.int (2 : Int32))] h0 (fun v h L => v = some (.int (2 : Int32)) ∧ Fr n0 L ∧ h = h0) := by
  refine MetFree.of_bodySF (Jvm.Free.JP.mathPlain rfl (by decide +kernel)) hisR ?_
  intro p e s m args below meth c s₁ Bd hml0 hP hK
  obtain ⟨rfl, hZ, hh⟩ := hP
  have hx := Bd.exec
  have hby := Bd.bytes
  have hml : c.maxLocals = 2 := hml0
  have hown : s.vm.findClass "java/lang/Math" = some m.cls := findClass_of_methodNamed Bd.named
  have hnm := (name_of_methodNamed Bd.named Bd.method).1
  have X0 : Stand p l e ({ frames := 0, cells := 0, slots := 0, locals := 0 } : Room) s m #[(.int (0 : Int32)), (.int (2 : Int32))] below meth c s₁ [] 0 0 := Stand.of_body Bd
  have e0 : s₁.heap = h0 := by rw [← hh, Bd.state]; rfl
  have N0 := Fr.nil n0
  have ef : entryFrame m #[(.int (0 : Int32)), (.int (2 : Int32))] 2 = mkF m 0 #[.val (.int (0 : Int32)), .val (.int (2 : Int32))] [] := by first | (simp [entryFrame, mkF, argsToLocals, Value.category, maxLocals]; done) | rfl
  show own_End p e below _ (s₁.setTop (entryFrame m #[(.int (0 : Int32)), (.int (2 : Int32))] 2))
  refine own_by (fun _ k => castTop ef k) ?_
  show own_End p e below _ (s₁.setTop (mkF m 0 #[.val (.int (0 : Int32)), .val (.int (2 : Int32))] []))
  refine own_by (fun _ k => XS.iloadN X0.here hx rfl (hb hby own_d_jdk_29_method_65_0) rfl k) ?_
  show own_End p e below _ (s₁.setTop (mkF m 1 #[.val (.int (0 : Int32)), .val (.int (2 : Int32))] [(.int (0 : Int32))]))
  refine own_by (fun _ k => XS.iloadN X0.here hx rfl (hb hby own_d_jdk_29_method_65_1) rfl k) ?_
  show own_End p e below _ (s₁.setTop (mkF m 2 #[.val (.int (0 : Int32)), .val (.int (2 : Int32))] [(.int (2 : Int32)), (.int (0 : Int32))]))
  refine own_by (fun _ k => XS.icmpYes X0.here hx rfl (pc0 := 2) (pc' := 9) rfl (hb hby own_d_jdk_29_method_65_2) rfl (tlt (by decide)).1 (by decide) (by decide) k) ?_
  show own_End p e below _ (s₁.setTop (mkF m 9 #[.val (.int (0 : Int32)), .val (.int (2 : Int32))] []))
  refine own_by (fun _ k => XS.iloadN X0.here hx rfl (hb hby own_d_jdk_29_method_65_9) rfl k) ?_
  show own_End p e below _ (s₁.setTop (mkF m 10 #[.val (.int (0 : Int32)), .val (.int (2 : Int32))] [(.int (2 : Int32))]))
  obtain ⟨fs, hr, hrun, hended, hW, hsame⟩ := X0.leave (v := (some (.int (2 : Int32)))) (fun h => by rw [Bd.returns] at h; cases h)
  refine ⟨_, _, retOut X0 hx Bd.returns rfl (Or.inl ⟨rfl, Or.inl rfl, _, rfl⟩) (hb hby own_d_jdk_29_method_65_10) hr, hrun, hended, _, _, rfl, ?_, ⟨_, rfl⟩, hW, hsame.mono (by decide) (by decide)⟩
  exact ⟨rfl, N0, e0⟩
set_option maxRecDepth 65536 in
set_option maxHeartbeats 40000000 in
theorem own_max10 (l : Launch) (Z : State) (a0 : Array Value) (hw : ∀ d ∈ tables_1, d.before a0 Z = true) (ws : List Jvm.Cond)  (h0 : Heap) (n0 : Nat) :
    own_Met l Z (⟨"java/lang/Math", "max", "(II)I"⟩ : MethodName) jdk_29_method_65_code 2 (some .int) ws ({ frames := 0, cells := 0, slots := 0, locals := 0 } : Room) #[(.int (1 : Int32)), (.int (0 : Int32))] h0 (fun v h L => v = some (.int (1 : Int32)) ∧ Fr n0 L ∧ h = h0) := by
  refine MetFree.of_bodySF (Jvm.Free.JP.mathPlain rfl (by decide +kernel)) hisR ?_
  intro p e s m args below meth c s₁ Bd hml0 hP hK
  obtain ⟨rfl, hZ, hh⟩ := hP
  have hx := Bd.exec
  have hby := Bd.bytes
  have hml : c.maxLocals = 2 := hml0
  have hown : s.vm.findClass "java/lang/Math" = some m.cls := findClass_of_methodNamed Bd.named
  have hnm := (name_of_methodNamed Bd.named Bd.method).1
  have X0 : Stand p l e ({ frames := 0, cells := 0, slots := 0, locals := 0 } : Room) s m #[(.int (1 : Int32)), (.int (0 : Int32))] below meth c s₁ [] 0 0 := Stand.of_body Bd
  have e0 : s₁.heap = h0 := by rw [← hh, Bd.state]; rfl
  have N0 := Fr.nil n0
  have ef : entryFrame m #[(.int (1 : Int32)), (.int (0 : Int32))] 2 = mkF m 0 #[.val (.int (1 : Int32)), .val (.int (0 : Int32))] [] := by first | (simp [entryFrame, mkF, argsToLocals, Value.category, maxLocals]; done) | rfl
  show own_End p e below _ (s₁.setTop (entryFrame m #[(.int (1 : Int32)), (.int (0 : Int32))] 2))
  refine own_by (fun _ k => castTop ef k) ?_
  show own_End p e below _ (s₁.setTop (mkF m 0 #[.val (.int (1 : Int32)), .val (.int (0 : Int32))] []))
  refine own_by (fun _ k => XS.iloadN X0.here hx rfl (hb hby own_d_jdk_29_method_65_0) rfl k) ?_
  show own_End p e below _ (s₁.setTop (mkF m 1 #[.val (.int (1 : Int32)), .val (.int (0 : Int32))] [(.int (1 : Int32))]))
  refine own_by (fun _ k => XS.iloadN X0.here hx rfl (hb hby own_d_jdk_29_method_65_1) rfl k) ?_
  show own_End p e below _ (s₁.setTop (mkF m 2 #[.val (.int (1 : Int32)), .val (.int (0 : Int32))] [(.int (0 : Int32)), (.int (1 : Int32))]))
  refine own_by (fun _ k => XS.icmpNo X0.here hx rfl (hb hby own_d_jdk_29_method_65_2) rfl (flt (by decide)).1 k) ?_
  show own_End p e below _ (s₁.setTop (mkF m 5 #[.val (.int (1 : Int32)), .val (.int (0 : Int32))] []))
  refine own_by (fun _ k => XS.iloadN X0.here hx rfl (hb hby own_d_jdk_29_method_65_5) rfl k) ?_
  show own_End p e below _ (s₁.setTop (mkF m 6 #[.val (.int (1 : Int32)), .val (.int (0 : Int32))] [(.int (1 : Int32))]))
  refine own_by (fun _ k => XS.goto X0.here hx rfl (pc0 := 6) (pc' := 10) rfl (hb hby own_d_jdk_29_method_65_6) (by decide) (by decide) k) ?_
  show own_End p e below _ (s₁.setTop (mkF m 10 #[.val (.int (1 : Int32)), .val (.int (0 : Int32))] [(.int (1 : Int32))]))
  obtain ⟨fs, hr, hrun, hended, hW, hsame⟩ := X0.leave (v := (some (.int (1 : Int32)))) (fun h => by rw [Bd.returns] at h; cases h)
  refine ⟨_, _, retOut X0 hx Bd.returns rfl (Or.inl ⟨rfl, Or.inl rfl, _, rfl⟩) (hb hby own_d_jdk_29_method_65_10) hr, hrun, hended, _, _, rfl, ?_, ⟨_, rfl⟩, hW, hsame.mono (by decide) (by decide)⟩
  exact ⟨rfl, N0, e0⟩
set_option maxRecDepth 65536 in
set_option maxHeartbeats 40000000 in
theorem own_max11 (l : Launch) (Z : State) (a0 : Array Value) (hw : ∀ d ∈ tables_1, d.before a0 Z = true) (ws : List Jvm.Cond)  (h0 : Heap) (n0 : Nat) :
    own_Met l Z (⟨"java/lang/Math", "max", "(II)I"⟩ : MethodName) jdk_29_method_65_code 2 (some .int) ws ({ frames := 0, cells := 0, slots := 0, locals := 0 } : Room) #[(.int (1 : Int32)), (.int (1 : Int32))] h0 (fun v h L => v = some (.int (1 : Int32)) ∧ Fr n0 L ∧ h = h0) := by
  refine MetFree.of_bodySF (Jvm.Free.JP.mathPlain rfl (by decide +kernel)) hisR ?_
  intro p e s m args below meth c s₁ Bd hml0 hP hK
  obtain ⟨rfl, hZ, hh⟩ := hP
  have hx := Bd.exec
  have hby := Bd.bytes
  have hml : c.maxLocals = 2 := hml0
  have hown : s.vm.findClass "java/lang/Math" = some m.cls := findClass_of_methodNamed Bd.named
  have hnm := (name_of_methodNamed Bd.named Bd.method).1
  have X0 : Stand p l e ({ frames := 0, cells := 0, slots := 0, locals := 0 } : Room) s m #[(.int (1 : Int32)), (.int (1 : Int32))] below meth c s₁ [] 0 0 := Stand.of_body Bd
  have e0 : s₁.heap = h0 := by rw [← hh, Bd.state]; rfl
  have N0 := Fr.nil n0
  have ef : entryFrame m #[(.int (1 : Int32)), (.int (1 : Int32))] 2 = mkF m 0 #[.val (.int (1 : Int32)), .val (.int (1 : Int32))] [] := by first | (simp [entryFrame, mkF, argsToLocals, Value.category, maxLocals]; done) | rfl
  show own_End p e below _ (s₁.setTop (entryFrame m #[(.int (1 : Int32)), (.int (1 : Int32))] 2))
  refine own_by (fun _ k => castTop ef k) ?_
  show own_End p e below _ (s₁.setTop (mkF m 0 #[.val (.int (1 : Int32)), .val (.int (1 : Int32))] []))
  refine own_by (fun _ k => XS.iloadN X0.here hx rfl (hb hby own_d_jdk_29_method_65_0) rfl k) ?_
  show own_End p e below _ (s₁.setTop (mkF m 1 #[.val (.int (1 : Int32)), .val (.int (1 : Int32))] [(.int (1 : Int32))]))
  refine own_by (fun _ k => XS.iloadN X0.here hx rfl (hb hby own_d_jdk_29_method_65_1) rfl k) ?_
  show own_End p e below _ (s₁.setTop (mkF m 2 #[.val (.int (1 : Int32)), .val (.int (1 : Int32))] [(.int (1 : Int32)), (.int (1 : Int32))]))
  refine own_by (fun _ k => XS.icmpNo X0.here hx rfl (hb hby own_d_jdk_29_method_65_2) rfl (flt (by decide)).1 k) ?_
  show own_End p e below _ (s₁.setTop (mkF m 5 #[.val (.int (1 : Int32)), .val (.int (1 : Int32))] []))
  refine own_by (fun _ k => XS.iloadN X0.here hx rfl (hb hby own_d_jdk_29_method_65_5) rfl k) ?_
  show own_End p e below _ (s₁.setTop (mkF m 6 #[.val (.int (1 : Int32)), .val (.int (1 : Int32))] [(.int (1 : Int32))]))
  refine own_by (fun _ k => XS.goto X0.here hx rfl (pc0 := 6) (pc' := 10) rfl (hb hby own_d_jdk_29_method_65_6) (by decide) (by decide) k) ?_
  show own_End p e below _ (s₁.setTop (mkF m 10 #[.val (.int (1 : Int32)), .val (.int (1 : Int32))] [(.int (1 : Int32))]))
  obtain ⟨fs, hr, hrun, hended, hW, hsame⟩ := X0.leave (v := (some (.int (1 : Int32)))) (fun h => by rw [Bd.returns] at h; cases h)
  refine ⟨_, _, retOut X0 hx Bd.returns rfl (Or.inl ⟨rfl, Or.inl rfl, _, rfl⟩) (hb hby own_d_jdk_29_method_65_10) hr, hrun, hended, _, _, rfl, ?_, ⟨_, rfl⟩, hW, hsame.mono (by decide) (by decide)⟩
  exact ⟨rfl, N0, e0⟩
set_option maxRecDepth 65536 in
set_option maxHeartbeats 40000000 in
theorem own_max12 (l : Launch) (Z : State) (a0 : Array Value) (hw : ∀ d ∈ tables_1, d.before a0 Z = true) (ws : List Jvm.Cond)  (h0 : Heap) (n0 : Nat) :
    own_Met l Z (⟨"java/lang/Math", "max", "(II)I"⟩ : MethodName) jdk_29_method_65_code 2 (some .int) ws ({ frames := 0, cells := 0, slots := 0, locals := 0 } : Room) #[(.int (1 : Int32)), (.int (2 : Int32))] h0 (fun v h L => v = some (.int (2 : Int32)) ∧ Fr n0 L ∧ h = h0) := by
  refine MetFree.of_bodySF (Jvm.Free.JP.mathPlain rfl (by decide +kernel)) hisR ?_
  intro p e s m args below meth c s₁ Bd hml0 hP hK
  obtain ⟨rfl, hZ, hh⟩ := hP
  have hx := Bd.exec
  have hby := Bd.bytes
  have hml : c.maxLocals = 2 := hml0
  have hown : s.vm.findClass "java/lang/Math" = some m.cls := findClass_of_methodNamed Bd.named
  have hnm := (name_of_methodNamed Bd.named Bd.method).1
  have X0 : Stand p l e ({ frames := 0, cells := 0, slots := 0, locals := 0 } : Room) s m #[(.int (1 : Int32)), (.int (2 : Int32))] below meth c s₁ [] 0 0 := Stand.of_body Bd
  have e0 : s₁.heap = h0 := by rw [← hh, Bd.state]; rfl
  have N0 := Fr.nil n0
  have ef : entryFrame m #[(.int (1 : Int32)), (.int (2 : Int32))] 2 = mkF m 0 #[.val (.int (1 : Int32)), .val (.int (2 : Int32))] [] := by first | (simp [entryFrame, mkF, argsToLocals, Value.category, maxLocals]; done) | rfl
  show own_End p e below _ (s₁.setTop (entryFrame m #[(.int (1 : Int32)), (.int (2 : Int32))] 2))
  refine own_by (fun _ k => castTop ef k) ?_
  show own_End p e below _ (s₁.setTop (mkF m 0 #[.val (.int (1 : Int32)), .val (.int (2 : Int32))] []))
  refine own_by (fun _ k => XS.iloadN X0.here hx rfl (hb hby own_d_jdk_29_method_65_0) rfl k) ?_
  show own_End p e below _ (s₁.setTop (mkF m 1 #[.val (.int (1 : Int32)), .val (.int (2 : Int32))] [(.int (1 : Int32))]))
  refine own_by (fun _ k => XS.iloadN X0.here hx rfl (hb hby own_d_jdk_29_method_65_1) rfl k) ?_
  show own_End p e below _ (s₁.setTop (mkF m 2 #[.val (.int (1 : Int32)), .val (.int (2 : Int32))] [(.int (2 : Int32)), (.int (1 : Int32))]))
  refine own_by (fun _ k => XS.icmpYes X0.here hx rfl (pc0 := 2) (pc' := 9) rfl (hb hby own_d_jdk_29_method_65_2) rfl (tlt (by decide)).1 (by decide) (by decide) k) ?_
  show own_End p e below _ (s₁.setTop (mkF m 9 #[.val (.int (1 : Int32)), .val (.int (2 : Int32))] []))
  refine own_by (fun _ k => XS.iloadN X0.here hx rfl (hb hby own_d_jdk_29_method_65_9) rfl k) ?_
  show own_End p e below _ (s₁.setTop (mkF m 10 #[.val (.int (1 : Int32)), .val (.int (2 : Int32))] [(.int (2 : Int32))]))
  obtain ⟨fs, hr, hrun, hended, hW, hsame⟩ := X0.leave (v := (some (.int (2 : Int32)))) (fun h => by rw [Bd.returns] at h; cases h)
  refine ⟨_, _, retOut X0 hx Bd.returns rfl (Or.inl ⟨rfl, Or.inl rfl, _, rfl⟩) (hb hby own_d_jdk_29_method_65_10) hr, hrun, hended, _, _, rfl, ?_, ⟨_, rfl⟩, hW, hsame.mono (by decide) (by decide)⟩
  exact ⟨rfl, N0, e0⟩
set_option maxRecDepth 65536 in
set_option maxHeartbeats 40000000 in
theorem own_max20 (l : Launch) (Z : State) (a0 : Array Value) (hw : ∀ d ∈ tables_1, d.before a0 Z = true) (ws : List Jvm.Cond)  (h0 : Heap) (n0 : Nat) :
    own_Met l Z (⟨"java/lang/Math", "max", "(II)I"⟩ : MethodName) jdk_29_method_65_code 2 (some .int) ws ({ frames := 0, cells := 0, slots := 0, locals := 0 } : Room) #[(.int (2 : Int32)), (.int (0 : Int32))] h0 (fun v h L => v = some (.int (2 : Int32)) ∧ Fr n0 L ∧ h = h0) := by
  refine MetFree.of_bodySF (Jvm.Free.JP.mathPlain rfl (by decide +kernel)) hisR ?_
  intro p e s m args below meth c s₁ Bd hml0 hP hK
  obtain ⟨rfl, hZ, hh⟩ := hP
  have hx := Bd.exec
  have hby := Bd.bytes
  have hml : c.maxLocals = 2 := hml0
  have hown : s.vm.findClass "java/lang/Math" = some m.cls := findClass_of_methodNamed Bd.named
  have hnm := (name_of_methodNamed Bd.named Bd.method).1
  have X0 : Stand p l e ({ frames := 0, cells := 0, slots := 0, locals := 0 } : Room) s m #[(.int (2 : Int32)), (.int (0 : Int32))] below meth c s₁ [] 0 0 := Stand.of_body Bd
  have e0 : s₁.heap = h0 := by rw [← hh, Bd.state]; rfl
  have N0 := Fr.nil n0
  have ef : entryFrame m #[(.int (2 : Int32)), (.int (0 : Int32))] 2 = mkF m 0 #[.val (.int (2 : Int32)), .val (.int (0 : Int32))] [] := by first | (simp [entryFrame, mkF, argsToLocals, Value.category, maxLocals]; done) | rfl
  show own_End p e below _ (s₁.setTop (entryFrame m #[(.int (2 : Int32)), (.int (0 : Int32))] 2))
  refine own_by (fun _ k => castTop ef k) ?_
  show own_End p e below _ (s₁.setTop (mkF m 0 #[.val (.int (2 : Int32)), .val (.int (0 : Int32))] []))
  refine own_by (fun _ k => XS.iloadN X0.here hx rfl (hb hby own_d_jdk_29_method_65_0) rfl k) ?_
  show own_End p e below _ (s₁.setTop (mkF m 1 #[.val (.int (2 : Int32)), .val (.int (0 : Int32))] [(.int (2 : Int32))]))
  refine own_by (fun _ k => XS.iloadN X0.here hx rfl (hb hby own_d_jdk_29_method_65_1) rfl k) ?_
  show own_End p e below _ (s₁.setTop (mkF m 2 #[.val (.int (2 : Int32)), .val (.int (0 : Int32))] [(.int (0 : Int32)), (.int (2 : Int32))]))
  refine own_by (fun _ k => XS.icmpNo X0.here hx rfl (hb hby own_d_jdk_29_method_65_2) rfl (flt (by decide)).1 k) ?_
  show own_End p e below _ (s₁.setTop (mkF m 5 #[.val (.int (2 : Int32)), .val (.int (0 : Int32))] []))
  refine own_by (fun _ k => XS.iloadN X0.here hx rfl (hb hby own_d_jdk_29_method_65_5) rfl k) ?_
  show own_End p e below _ (s₁.setTop (mkF m 6 #[.val (.int (2 : Int32)), .val (.int (0 : Int32))] [(.int (2 : Int32))]))
  refine own_by (fun _ k => XS.goto X0.here hx rfl (pc0 := 6) (pc' := 10) rfl (hb hby own_d_jdk_29_method_65_6) (by decide) (by decide) k) ?_
  show own_End p e below _ (s₁.setTop (mkF m 10 #[.val (.int (2 : Int32)), .val (.int (0 : Int32))] [(.int (2 : Int32))]))
  obtain ⟨fs, hr, hrun, hended, hW, hsame⟩ := X0.leave (v := (some (.int (2 : Int32)))) (fun h => by rw [Bd.returns] at h; cases h)
  refine ⟨_, _, retOut X0 hx Bd.returns rfl (Or.inl ⟨rfl, Or.inl rfl, _, rfl⟩) (hb hby own_d_jdk_29_method_65_10) hr, hrun, hended, _, _, rfl, ?_, ⟨_, rfl⟩, hW, hsame.mono (by decide) (by decide)⟩
  exact ⟨rfl, N0, e0⟩
set_option maxRecDepth 65536 in
set_option maxHeartbeats 40000000 in
theorem own_max21 (l : Launch) (Z : State) (a0 : Array Value) (hw : ∀ d ∈ tables_1, d.before a0 Z = true) (ws : List Jvm.Cond)  (h0 : Heap) (n0 : Nat) :
    own_Met l Z (⟨"java/lang/Math", "max", "(II)I"⟩ : MethodName) jdk_29_method_65_code 2 (some .int) ws ({ frames := 0, cells := 0, slots := 0, locals := 0 } : Room) #[(.int (2 : Int32)), (.int (1 : Int32))] h0 (fun v h L => v = some (.int (2 : Int32)) ∧ Fr n0 L ∧ h = h0) := by
  refine MetFree.of_bodySF (Jvm.Free.JP.mathPlain rfl (by decide +kernel)) hisR ?_
  intro p e s m args below meth c s₁ Bd hml0 hP hK
  obtain ⟨rfl, hZ, hh⟩ := hP
  have hx := Bd.exec
  have hby := Bd.bytes
  have hml : c.maxLocals = 2 := hml0
  have hown : s.vm.findClass "java/lang/Math" = some m.cls := findClass_of_methodNamed Bd.named
  have hnm := (name_of_methodNamed Bd.named Bd.method).1
  have X0 : Stand p l e ({ frames := 0, cells := 0, slots := 0, locals := 0 } : Room) s m #[(.int (2 : Int32)), (.int (1 : Int32))] below meth c s₁ [] 0 0 := Stand.of_body Bd
  have e0 : s₁.heap = h0 := by rw [← hh, Bd.state]; rfl
  have N0 := Fr.nil n0
  have ef : entryFrame m #[(.int (2 : Int32)), (.int (1 : Int32))] 2 = mkF m 0 #[.val (.int (2 : Int32)), .val (.int (1 : Int32))] [] := by first | (simp [entryFrame, mkF, argsToLocals, Value.category, maxLocals]; done) | rfl
  show own_End p e below _ (s₁.setTop (entryFrame m #[(.int (2 : Int32)), (.int (1 : Int32))] 2))
  refine own_by (fun _ k => castTop ef k) ?_
  show own_End p e below _ (s₁.setTop (mkF m 0 #[.val (.int (2 : Int32)), .val (.int (1 : Int32))] []))
  refine own_by (fun _ k => XS.iloadN X0.here hx rfl (hb hby own_d_jdk_29_method_65_0) rfl k) ?_
  show own_End p e below _ (s₁.setTop (mkF m 1 #[.val (.int (2 : Int32)), .val (.int (1 : Int32))] [(.int (2 : Int32))]))
  refine own_by (fun _ k => XS.iloadN X0.here hx rfl (hb hby own_d_jdk_29_method_65_1) rfl k) ?_
  show own_End p e below _ (s₁.setTop (mkF m 2 #[.val (.int (2 : Int32)), .val (.int (1 : Int32))] [(.int (1 : Int32)), (.int (2 : Int32))]))
  refine own_by (fun _ k => XS.icmpNo X0.here hx rfl (hb hby own_d_jdk_29_method_65_2) rfl (flt (by decide)).1 k) ?_
  show own_End p e below _ (s₁.setTop (mkF m 5 #[.val (.int (2 : Int32)), .val (.int (1 : Int32))] []))
  refine own_by (fun _ k => XS.iloadN X0.here hx rfl (hb hby own_d_jdk_29_method_65_5) rfl k) ?_
  show own_End p e below _ (s₁.setTop (mkF m 6 #[.val (.int (2 : Int32)), .val (.int (1 : Int32))] [(.int (2 : Int32))]))
  refine own_by (fun _ k => XS.goto X0.here hx rfl (pc0 := 6) (pc' := 10) rfl (hb hby own_d_jdk_29_method_65_6) (by decide) (by decide) k) ?_
  show own_End p e below _ (s₁.setTop (mkF m 10 #[.val (.int (2 : Int32)), .val (.int (1 : Int32))] [(.int (2 : Int32))]))
  obtain ⟨fs, hr, hrun, hended, hW, hsame⟩ := X0.leave (v := (some (.int (2 : Int32)))) (fun h => by rw [Bd.returns] at h; cases h)
  refine ⟨_, _, retOut X0 hx Bd.returns rfl (Or.inl ⟨rfl, Or.inl rfl, _, rfl⟩) (hb hby own_d_jdk_29_method_65_10) hr, hrun, hended, _, _, rfl, ?_, ⟨_, rfl⟩, hW, hsame.mono (by decide) (by decide)⟩
  exact ⟨rfl, N0, e0⟩
set_option maxRecDepth 65536 in
set_option maxHeartbeats 40000000 in
theorem own_max22 (l : Launch) (Z : State) (a0 : Array Value) (hw : ∀ d ∈ tables_1, d.before a0 Z = true) (ws : List Jvm.Cond)  (h0 : Heap) (n0 : Nat) :
    own_Met l Z (⟨"java/lang/Math", "max", "(II)I"⟩ : MethodName) jdk_29_method_65_code 2 (some .int) ws ({ frames := 0, cells := 0, slots := 0, locals := 0 } : Room) #[(.int (2 : Int32)), (.int (2 : Int32))] h0 (fun v h L => v = some (.int (2 : Int32)) ∧ Fr n0 L ∧ h = h0) := by
  refine MetFree.of_bodySF (Jvm.Free.JP.mathPlain rfl (by decide +kernel)) hisR ?_
  intro p e s m args below meth c s₁ Bd hml0 hP hK
  obtain ⟨rfl, hZ, hh⟩ := hP
  have hx := Bd.exec
  have hby := Bd.bytes
  have hml : c.maxLocals = 2 := hml0
  have hown : s.vm.findClass "java/lang/Math" = some m.cls := findClass_of_methodNamed Bd.named
  have hnm := (name_of_methodNamed Bd.named Bd.method).1
  have X0 : Stand p l e ({ frames := 0, cells := 0, slots := 0, locals := 0 } : Room) s m #[(.int (2 : Int32)), (.int (2 : Int32))] below meth c s₁ [] 0 0 := Stand.of_body Bd
  have e0 : s₁.heap = h0 := by rw [← hh, Bd.state]; rfl
  have N0 := Fr.nil n0
  have ef : entryFrame m #[(.int (2 : Int32)), (.int (2 : Int32))] 2 = mkF m 0 #[.val (.int (2 : Int32)), .val (.int (2 : Int32))] [] := by first | (simp [entryFrame, mkF, argsToLocals, Value.category, maxLocals]; done) | rfl
  show own_End p e below _ (s₁.setTop (entryFrame m #[(.int (2 : Int32)), (.int (2 : Int32))] 2))
  refine own_by (fun _ k => castTop ef k) ?_
  show own_End p e below _ (s₁.setTop (mkF m 0 #[.val (.int (2 : Int32)), .val (.int (2 : Int32))] []))
  refine own_by (fun _ k => XS.iloadN X0.here hx rfl (hb hby own_d_jdk_29_method_65_0) rfl k) ?_
  show own_End p e below _ (s₁.setTop (mkF m 1 #[.val (.int (2 : Int32)), .val (.int (2 : Int32))] [(.int (2 : Int32))]))
  refine own_by (fun _ k => XS.iloadN X0.here hx rfl (hb hby own_d_jdk_29_method_65_1) rfl k) ?_
  show own_End p e below _ (s₁.setTop (mkF m 2 #[.val (.int (2 : Int32)), .val (.int (2 : Int32))] [(.int (2 : Int32)), (.int (2 : Int32))]))
  refine own_by (fun _ k => XS.icmpNo X0.here hx rfl (hb hby own_d_jdk_29_method_65_2) rfl (flt (by decide)).1 k) ?_
  show own_End p e below _ (s₁.setTop (mkF m 5 #[.val (.int (2 : Int32)), .val (.int (2 : Int32))] []))
  refine own_by (fun _ k => XS.iloadN X0.here hx rfl (hb hby own_d_jdk_29_method_65_5) rfl k) ?_
  show own_End p e below _ (s₁.setTop (mkF m 6 #[.val (.int (2 : Int32)), .val (.int (2 : Int32))] [(.int (2 : Int32))]))
  refine own_by (fun _ k => XS.goto X0.here hx rfl (pc0 := 6) (pc' := 10) rfl (hb hby own_d_jdk_29_method_65_6) (by decide) (by decide) k) ?_
  show own_End p e below _ (s₁.setTop (mkF m 10 #[.val (.int (2 : Int32)), .val (.int (2 : Int32))] [(.int (2 : Int32))]))
  obtain ⟨fs, hr, hrun, hended, hW, hsame⟩ := X0.leave (v := (some (.int (2 : Int32)))) (fun h => by rw [Bd.returns] at h; cases h)
  refine ⟨_, _, retOut X0 hx Bd.returns rfl (Or.inl ⟨rfl, Or.inl rfl, _, rfl⟩) (hb hby own_d_jdk_29_method_65_10) hr, hrun, hended, _, _, rfl, ?_, ⟨_, rfl⟩, hW, hsame.mono (by decide) (by decide)⟩
  exact ⟨rfl, N0, e0⟩
set_option maxRecDepth 65536 in
set_option maxHeartbeats 40000000 in
theorem own_law (l : Launch) (Z : State) (a0 : Array Value) (hw : ∀ d ∈ tables_1, d.before a0 Z = true) (ws : List Jvm.Cond) (p1 p2 : Int32) (u0 u1 u2 : Addr) (h0 : Heap) (n0 : Nat) (O : Ext Z.heap h0) (S_u0 : Sta Z Z.heap "com/example/orderly_commit/orderlycommit/jdbc/StatementKind" "ORDINARY" "Lcom/example/orderly_commit/orderlycommit/jdbc/StatementKind;" (.ref u0)) (S_u1 : Sta Z Z.heap "com/example/orderly_commit/orderlycommit/jdbc/StatementKind" "OTHER" "Lcom/example/orderly_commit/orderlycommit/jdbc/StatementKind;" (.ref u1)) (S_u2 : Sta Z Z.heap "com/example/orderly_commit/orderlycommit/jdbc/StatementKind" "TRANSACTION_CONTROL" "Lcom/example/orderly_commit/orderlycommit/jdbc/StatementKind;" (.ref u2)) (E_u0 : Exa Z Z.heap u0 "com/example/orderly_commit/orderlycommit/jdbc/StatementKind") (F_u0 : Fld Z Z.heap u0 "java/lang/Enum" "ordinal" "I" (.int 0)) (E_u1 : Exa Z Z.heap u1 "com/example/orderly_commit/orderlycommit/jdbc/StatementKind") (F_u1 : Fld Z Z.heap u1 "java/lang/Enum" "ordinal" "I" (.int 1)) (E_u2 : Exa Z Z.heap u2 "com/example/orderly_commit/orderlycommit/jdbc/StatementKind") (F_u2 : Fld Z Z.heap u2 "java/lang/Enum" "ordinal" "I" (.int 2)) (hM : MirrorMade Z "com/example/orderly_commit/orderlycommit/jdbc/StatementKind") :
    own_Met l Z x code maxLocals ret ws room_1 #[(.int p1), (.int p2)] h0 (fun v h L => v = some (.int 1) ∧ Fr n0 L) := by
  refine MetFree.of_bodySF (plainFor_of_name own_pn0) hisR ?_
  intro p e s m args below meth c s₁ Bd hml0 hP hK
  obtain ⟨rfl, hZ, hh⟩ := hP
  have hx := Bd.exec
  have hby := Bd.bytes
  have hml : c.maxLocals = 7 := hml0
  have hown : s.vm.findClass "com/example/orderly_commit/orderlycommit/jdbc/StatementKindWeightierPinLaw" = some m.cls := findClass_of_methodNamed Bd.named
  have hnm := (name_of_methodNamed Bd.named Bd.method).1
  have X0 : Stand p l e room_1 s m #[(.int p1), (.int p2)] below meth c s₁ [] 0 0 := Stand.of_body Bd
  have e0 : s₁.heap = h0 := by rw [← hh, Bd.state]; rfl
  have N0 := Fr.nil n0
  have ef : entryFrame m #[(.int p1), (.int p2)] maxLocals = mkF m 0 #[.val (.int p1), .val (.int p2), .unset, .unset, .unset, .unset, .unset] [] := by first | (simp [entryFrame, mkF, argsToLocals, Value.category, maxLocals]; done) | rfl
  show own_End p e below _ (s₁.setTop (entryFrame m #[(.int p1), (.int p2)] maxLocals))
  refine own_by (fun _ k => castTop ef k) ?_
  show own_End p e below _ (s₁.setTop (mkF m 0 #[.val (.int p1), .val (.int p2), .unset, .unset, .unset, .unset, .unset] []))
  refine own_by (fun _ k => XS.iloadN X0.here hx rfl (hb hby at_0) rfl k) ?_
  show own_End p e below _ (s₁.setTop (mkF m 1 #[.val (.int p1), .val (.int p2), .unset, .unset, .unset, .unset, .unset] [(.int p1)]))
  refine own_by (fun _ k => X0.ldcInt hx hown (mvT hZ (hw _ (List.mem_of_getElem? (i := 0) rfl))) (g := (mkF m 1 #[.val (.int p1), .val (.int p2), .unset, .unset, .unset, .unset, .unset] [(.int p1)])) rfl (hb hby at_1) _ k) ?_
  show own_End p e below _ (s₁.setTop (mkF m 3 #[.val (.int p1), .val (.int p2), .unset, .unset, .unset, .unset, .unset] [(.int (2147483647 : Int32)), (.int p1)]))
  refine own_by (fun _ k => XS.iand X0.here hx rfl (hb hby at_3) rfl k) ?_
  show own_End p e below _ (s₁.setTop (mkF m 4 #[.val (.int p1), .val (.int p2), .unset, .unset, .unset, .unset, .unset] [(.int (p1 &&& (2147483647 : Int32)))]))
  refine own_by (fun _ k => XS.iconst X0.here hx rfl (hb hby at_4) k) ?_
  show own_End p e below _ (s₁.setTop (mkF m 5 #[.val (.int p1), .val (.int p2), .unset, .unset, .unset, .unset, .unset] [(.int (3 : Int32)), (.int (p1 &&& (2147483647 : Int32)))]))
  refine own_by (fun _ k => iremM (g := (mkF m 5 #[.val (.int p1), .val (.int p2), .unset, .unset, .unset, .unset, .unset] [(.int (3 : Int32)), (.int (p1 &&& (2147483647 : Int32)))])) X0 hx rfl (hb hby at_5) rfl (by decide) k) ?_
  show own_End p e below _ (s₁.setTop (mkF m 6 #[.val (.int p1), .val (.int p2), .unset, .unset, .unset, .unset, .unset] [(.int ((p1 &&& (2147483647 : Int32)) % (3 : Int32)))]))
  refine own_by (fun _ k => XS.istoreN X0.here hx rfl (hb hby at_6) rfl (l' := #[.val (.int p1), .val (.int p2), .val (.int ((p1 &&& (2147483647 : Int32)) % (3 : Int32))), .unset, .unset, .unset, .unset]) rfl k) ?_
  show own_End p e below _ (s₁.setTop (mkF m 7 #[.val (.int p1), .val (.int p2), .val (.int ((p1 &&& (2147483647 : Int32)) % (3 : Int32))), .unset, .unset, .unset, .unset] []))
  refine own_by (fun _ k => XS.iloadN X0.here hx rfl (hb hby at_7) rfl k) ?_
  show own_End p e below _ (s₁.setTop (mkF m 8 #[.val (.int p1), .val (.int p2), .val (.int ((p1 &&& (2147483647 : Int32)) % (3 : Int32))), .unset, .unset, .unset, .unset] [(.int p2)]))
  refine own_by (fun _ k => X0.ldcInt hx hown (mvT hZ (hw _ (List.mem_of_getElem? (i := 0) rfl))) (g := (mkF m 8 #[.val (.int p1), .val (.int p2), .val (.int ((p1 &&& (2147483647 : Int32)) % (3 : Int32))), .unset, .unset, .unset, .unset] [(.int p2)])) rfl (hb hby at_8) _ k) ?_
  show own_End p e below _ (s₁.setTop (mkF m 10 #[.val (.int p1), .val (.int p2), .val (.int ((p1 &&& (2147483647 : Int32)) % (3 : Int32))), .unset, .unset, .unset, .unset] [(.int (2147483647 : Int32)), (.int p2)]))
  refine own_by (fun _ k => XS.iand X0.here hx rfl (hb hby at_10) rfl k) ?_
  show own_End p e below _ (s₁.setTop (mkF m 11 #[.val (.int p1), .val (.int p2), .val (.int ((p1 &&& (2147483647 : Int32)) % (3 : Int32))), .unset, .unset, .unset, .unset] [(.int (p2 &&& (2147483647 : Int32)))]))
  refine own_by (fun _ k => XS.iconst X0.here hx rfl (hb hby at_11) k) ?_
  show own_End p e below _ (s₁.setTop (mkF m 12 #[.val (.int p1), .val (.int p2), .val (.int ((p1 &&& (2147483647 : Int32)) % (3 : Int32))), .unset, .unset, .unset, .unset] [(.int (3 : Int32)), (.int (p2 &&& (2147483647 : Int32)))]))
  refine own_by (fun _ k => iremM (g := (mkF m 12 #[.val (.int p1), .val (.int p2), .val (.int ((p1 &&& (2147483647 : Int32)) % (3 : Int32))), .unset, .unset, .unset, .unset] [(.int (3 : Int32)), (.int (p2 &&& (2147483647 : Int32)))])) X0 hx rfl (hb hby at_12) rfl (by decide) k) ?_
  show own_End p e below _ (s₁.setTop (mkF m 13 #[.val (.int p1), .val (.int p2), .val (.int ((p1 &&& (2147483647 : Int32)) % (3 : Int32))), .unset, .unset, .unset, .unset] [(.int ((p2 &&& (2147483647 : Int32)) % (3 : Int32)))]))
  refine own_by (fun _ k => XS.istoreN X0.here hx rfl (hb hby at_13) rfl (l' := #[.val (.int p1), .val (.int p2), .val (.int ((p1 &&& (2147483647 : Int32)) % (3 : Int32))), .val (.int ((p2 &&& (2147483647 : Int32)) % (3 : Int32))), .unset, .unset, .unset]) rfl k) ?_
  show own_End p e below _ (s₁.setTop (mkF m 14 #[.val (.int p1), .val (.int p2), .val (.int ((p1 &&& (2147483647 : Int32)) % (3 : Int32))), .val (.int ((p2 &&& (2147483647 : Int32)) % (3 : Int32))), .unset, .unset, .unset] []))
  rcases own_three p1 with hq2 | hq2 | hq2
  · -- ra = 0
    rcases own_three p2 with hq3 | hq3 | hq3
    · -- case 0
      rw [hq2, hq3]
      show own_End p e below _ (s₁.setTop (mkF m 14 #[.val (.int p1), .val (.int p2), .val (.int (0 : Int32)), .val (.int (0 : Int32)), .unset, .unset, .unset] []))
      refine own_by (fun _ k => XS.iloadN X0.here hx rfl (hb hby at_14) rfl k) ?_
      show own_End p e below _ (s₁.setTop (mkF m 15 #[.val (.int p1), .val (.int p2), .val (.int (0 : Int32)), .val (.int (0 : Int32)), .unset, .unset, .unset] [(.int (0 : Int32))]))
      obtain ⟨_, _, ⟨T10, L10, k10, n10⟩, -, X10, ⟨Lc10, hQ10, l10, y10, z10⟩, st10⟩ := Jvm.LawKit.callS X0 hx (y := (⟨"com/example/orderly_commit/orderlycommit/jdbc/StatementKindWeightierPinLaw", "kindOf", "(I)Lcom/example/orderly_commit/orderlycommit/jdbc/StatementKind;"⟩ : MethodName)) hown (mvT hZ (hw _ (List.mem_of_getElem? (i := 1) rfl))) (mvT hZ (hw _ (List.mem_of_getElem? (i := 2) rfl))) (mvT hZ (hw _ (List.mem_of_getElem? (i := 3) rfl))) (mvT hZ (hw _ (List.mem_of_getElem? (i := 4) rfl))) (by decide) (own_back (W := 0) (own_kind0 l Z a0 hw [] u0 u1 u2 h0 n0 O S_u0 S_u1 S_u2) hZ (hw _ (List.mem_of_getElem? (i := 4) rfl)) (hw _ (List.mem_of_getElem? (i := 3) rfl)) (by decide) (by decide)) (g := (mkF m 15 #[.val (.int p1), .val (.int p2), .val (.int (0 : Int32)), .val (.int (0 : Int32)), .unset, .unset, .unset] [(.int (0 : Int32))])) rfl (by rw [hml]; rfl) (argsL := [(.int (0 : Int32))]) (rest := []) (lenOf own_pd1 rfl) rfl (by show 2 * 0 + _ ≤ _; exact Nat.le_of_eq rfl) (hb hby at_15) (fun _ _ => ⟨rfl, e0, (by decide : 0 + 0 ≤ _), (by decide : 0 + 0 ≤ _)⟩)
      dsimp only [Pt.U, Pt.locs, Pt.cells, Pt.slots] at X10 l10 y10 z10 st10 hQ10
      subst l10 y10 z10
      obtain ⟨rfl, N10q, e10⟩ := hQ10
      have N10 := Fr.app N0 N10q
      refine own_by st10 ?_
      show own_End p e below _ (T10.setTop (mkF m 18 #[.val (.int p1), .val (.int p2), .val (.int (0 : Int32)), .val (.int (0 : Int32)), .unset, .unset, .unset] [(.ref u0)]))
      refine own_by (fun _ k => XS.astore X10.here hx rfl (hb hby at_18) rfl rfl (l' := #[.val (.int p1), .val (.int p2), .val (.int (0 : Int32)), .val (.int (0 : Int32)), .val (.ref u0), .unset, .unset]) rfl k) ?_
      show own_End p e below _ (T10.setTop (mkF m 20 #[.val (.int p1), .val (.int p2), .val (.int (0 : Int32)), .val (.int (0 : Int32)), .val (.ref u0), .unset, .unset] []))
      refine own_by (fun _ k => XS.iloadN X10.here hx rfl (hb hby at_20) rfl k) ?_
      show own_End p e below _ (T10.setTop (mkF m 21 #[.val (.int p1), .val (.int p2), .val (.int (0 : Int32)), .val (.int (0 : Int32)), .val (.ref u0), .unset, .unset] [(.int (0 : Int32))]))
      obtain ⟨_, _, ⟨T11, L11, k11, n11⟩, -, X11, ⟨Lc11, hQ11, l11, y11, z11⟩, st11⟩ := Jvm.LawKit.callS X10 hx (y := (⟨"com/example/orderly_commit/orderlycommit/jdbc/StatementKindWeightierPinLaw", "kindOf", "(I)Lcom/example/orderly_commit/orderlycommit/jdbc/StatementKind;"⟩ : MethodName)) hown (mvT hZ (hw _ (List.mem_of_getElem? (i := 1) rfl))) (mvT hZ (hw _ (List.mem_of_getElem? (i := 2) rfl))) (mvT hZ (hw _ (List.mem_of_getElem? (i := 3) rfl))) (mvT hZ (hw _ (List.mem_of_getElem? (i := 4) rfl))) (by decide) (own_back (W := 0) (own_kind0 l Z a0 hw [] u0 u1 u2 h0 n0 O S_u0 S_u1 S_u2) hZ (hw _ (List.mem_of_getElem? (i := 4) rfl)) (hw _ (List.mem_of_getElem? (i := 3) rfl)) (by decide) (by decide)) (g := (mkF m 21 #[.val (.int p1), .val (.int p2), .val (.int (0 : Int32)), .val (.int (0 : Int32)), .val (.ref u0), .unset, .unset] [(.int (0 : Int32))])) rfl (by rw [hml]; rfl) (argsL := [(.int (0 : Int32))]) (rest := []) (lenOf own_pd1 rfl) rfl (by show 2 * 0 + _ ≤ _; exact Nat.le_of_eq rfl) (hb hby at_21) (fun _ _ => ⟨rfl, e10, (by decide : 0 + 0 ≤ _), (by decide : 0 + 0 ≤ _)⟩)
      dsimp only [Pt.U, Pt.locs, Pt.cells, Pt.slots] at X11 l11 y11 z11 st11 hQ11
      subst l11 y11 z11
      obtain ⟨rfl, N11q, e11⟩ := hQ11
      have N11 := Fr.app N10 N11q
      refine own_by st11 ?_
      show own_End p e below _ (T11.setTop (mkF m 24 #[.val (.int p1), .val (.int p2), .val (.int (0 : Int32)), .val (.int (0 : Int32)), .val (.ref u0), .unset, .unset] [(.ref u0)]))
      refine own_by (fun _ k => XS.astore X11.here hx rfl (hb hby at_24) rfl rfl (l' := #[.val (.int p1), .val (.int p2), .val (.int (0 : Int32)), .val (.int (0 : Int32)), .val (.ref u0), .val (.ref u0), .unset]) rfl k) ?_
      show own_End p e below _ (T11.setTop (mkF m 26 #[.val (.int p1), .val (.int p2), .val (.int (0 : Int32)), .val (.int (0 : Int32)), .val (.ref u0), .val (.ref u0), .unset] []))
      refine own_by (fun _ k => XS.aload X11.here hx rfl (hb hby at_26) rfl rfl k) ?_
      show own_End p e below _ (T11.setTop (mkF m 28 #[.val (.int p1), .val (.int p2), .val (.int (0 : Int32)), .val (.int (0 : Int32)), .val (.ref u0), .val (.ref u0), .unset] [(.ref u0)]))
      refine own_by (fun _ k => XS.aload X11.here hx rfl (hb hby at_28) rfl rfl k) ?_
      show own_End p e below _ (T11.setTop (mkF m 30 #[.val (.int p1), .val (.int p2), .val (.int (0 : Int32)), .val (.int (0 : Int32)), .val (.ref u0), .val (.ref u0), .unset] [(.ref u0), (.ref u0)]))
      obtain ⟨_, _, ⟨T12, L12, k12, n12⟩, -, X12, ⟨Lc12, hQ12, l12, y12, z12⟩, st12⟩ := Jvm.LawKit.callS X11 hx (y := (⟨"com/example/orderly_commit/orderlycommit/jdbc/StatementKind", "weightier", "(Lcom/example/orderly_commit/orderlycommit/jdbc/StatementKind;Lcom/example/orderly_commit/orderlycommit/jdbc/StatementKind;)Lcom/example/orderly_commit/orderlycommit/jdbc/StatementKind;"⟩ : MethodName)) hown (mvT hZ (hw _ (List.mem_of_getElem? (i := 8) rfl))) (mvT hZ (hw _ (List.mem_of_getElem? (i := 9) rfl))) (mvT hZ (hw _ (List.mem_of_getElem? (i := 6) rfl))) (mvT hZ (hw _ (List.mem_of_getElem? (i := 10) rfl))) (by decide) (own_back (W := 0) (own_wei l Z a0 hw [] u0 u0 u0 0 0 h0 n0 O E_u0 E_u0 F_u0 F_u0 hM (Or.inr ⟨by decide, rfl⟩)) hZ (hw _ (List.mem_of_getElem? (i := 10) rfl)) (hw _ (List.mem_of_getElem? (i := 6) rfl)) (by decide) (by decide)) (g := (mkF m 30 #[.val (.int p1), .val (.int p2), .val (.int (0 : Int32)), .val (.int (0 : Int32)), .val (.ref u0), .val (.ref u0), .unset] [(.ref u0), (.ref u0)])) rfl (by rw [hml]; rfl) (argsL := [(.ref u0), (.ref u0)]) (rest := []) (lenOf own_pd2 rfl) rfl (by show 2 * 0 + _ ≤ _; exact Nat.le_of_eq rfl) (hb hby at_30) (fun _ _ => ⟨rfl, e11, (by decide : 0 + 0 ≤ _), (by decide : 0 + 0 ≤ _)⟩)
      dsimp only [Pt.U, Pt.locs, Pt.cells, Pt.slots] at X12 l12 y12 z12 st12 hQ12
      subst l12 y12 z12
      obtain ⟨rfl, N12q, e12⟩ := hQ12
      have N12 := Fr.app N11 N12q
      refine own_by st12 ?_
      show own_End p e below _ (T12.setTop (mkF m 33 #[.val (.int p1), .val (.int p2), .val (.int (0 : Int32)), .val (.int (0 : Int32)), .val (.ref u0), .val (.ref u0), .unset] [(.ref u0)]))
      refine own_by (fun _ k => XS.astore X12.here hx rfl (hb hby at_33) rfl rfl (l' := #[.val (.int p1), .val (.int p2), .val (.int (0 : Int32)), .val (.int (0 : Int32)), .val (.ref u0), .val (.ref u0), .val (.ref u0)]) rfl k) ?_
      show own_End p e below _ (T12.setTop (mkF m 35 #[.val (.int p1), .val (.int p2), .val (.int (0 : Int32)), .val (.int (0 : Int32)), .val (.ref u0), .val (.ref u0), .val (.ref u0)] []))
      refine own_by (fun _ k => XS.aload X12.here hx rfl (hb hby at_35) rfl rfl k) ?_
      show own_End p e below _ (T12.setTop (mkF m 37 #[.val (.int p1), .val (.int p2), .val (.int (0 : Int32)), .val (.int (0 : Int32)), .val (.ref u0), .val (.ref u0), .val (.ref u0)] [(.ref u0)]))
      refine own_by (fun _ k => XS.iloadN X12.here hx rfl (hb hby at_37) rfl k) ?_
      show own_End p e below _ (T12.setTop (mkF m 38 #[.val (.int p1), .val (.int p2), .val (.int (0 : Int32)), .val (.int (0 : Int32)), .val (.ref u0), .val (.ref u0), .val (.ref u0)] [(.int (0 : Int32)), (.ref u0)]))
      refine own_by (fun _ k => XS.iloadN X12.here hx rfl (hb hby at_38) rfl k) ?_
      show own_End p e below _ (T12.setTop (mkF m 39 #[.val (.int p1), .val (.int p2), .val (.int (0 : Int32)), .val (.int (0 : Int32)), .val (.ref u0), .val (.ref u0), .val (.ref u0)] [(.int (0 : Int32)), (.int (0 : Int32)), (.ref u0)]))
      obtain ⟨_, _, ⟨T13, L13, k13, n13⟩, -, X13, ⟨Lc13, hQ13, l13, y13, z13⟩, st13⟩ := Jvm.LawKit.callS X12 hx (y := (⟨"java/lang/Math", "max", "(II)I"⟩ : MethodName)) hown (mvT hZ (hw _ (List.mem_of_getElem? (i := 26) rfl))) (mvT hZ (hw _ (List.mem_of_getElem? (i := 27) rfl))) (mvT hZ (hw _ (List.mem_of_getElem? (i := 28) rfl))) (mvT hZ (hw _ (List.mem_of_getElem? (i := 29) rfl))) (by decide) (own_back (W := 1) (own_max00 l Z a0 hw [] h0 n0) hZ (hw _ (List.mem_of_getElem? (i := 29) rfl)) (hw _ (List.mem_of_getElem? (i := 28) rfl)) (by decide) (by decide)) (g := (mkF m 39 #[.val (.int p1), .val (.int p2), .val (.int (0 : Int32)), .val (.int (0 : Int32)), .val (.ref u0), .val (.ref u0), .val (.ref u0)] [(.int (0 : Int32)), (.int (0 : Int32)), (.ref u0)])) rfl (by rw [hml]; rfl) (argsL := [(.int (0 : Int32)), (.int (0 : Int32))]) (rest := [(.ref u0)]) (lenOf own_pd3 rfl) rfl (by show 2 * 0 + _ ≤ _; exact Nat.le_of_eq rfl) (hb hby at_39) (fun _ _ => ⟨rfl, e12, (by decide : 0 + 0 ≤ _), (by decide : 0 + 0 ≤ _)⟩)
      dsimp only [Pt.U, Pt.locs, Pt.cells, Pt.slots] at X13 l13 y13 z13 st13 hQ13
      subst l13 y13 z13
      obtain ⟨rfl, N13q, e13⟩ := hQ13
      have N13 := Fr.app N12 N13q
      refine own_by st13 ?_
      show own_End p e below _ (T13.setTop (mkF m 42 #[.val (.int p1), .val (.int p2), .val (.int (0 : Int32)), .val (.int (0 : Int32)), .val (.ref u0), .val (.ref u0), .val (.ref u0)] [(.int (0 : Int32)), (.ref u0)]))
      obtain ⟨_, _, ⟨T14, L14, k14, n14⟩, -, X14, ⟨Lc14, hQ14, l14, y14, z14⟩, st14⟩ := Jvm.LawKit.callS X13 hx (y := (⟨"com/example/orderly_commit/orderlycommit/jdbc/StatementKindWeightierPinLaw", "kindOf", "(I)Lcom/example/orderly_commit/orderlycommit/jdbc/StatementKind;"⟩ : MethodName)) hown (mvT hZ (hw _ (List.mem_of_getElem? (i := 1) rfl))) (mvT hZ (hw _ (List.mem_of_getElem? (i := 2) rfl))) (mvT hZ (hw _ (List.mem_of_getElem? (i := 3) rfl))) (mvT hZ (hw _ (List.mem_of_getElem? (i := 4) rfl))) (by decide) (own_back (W := 1) (own_kind0 l Z a0 hw [] u0 u1 u2 h0 n0 O S_u0 S_u1 S_u2) hZ (hw _ (List.mem_of_getElem? (i := 4) rfl)) (hw _ (List.mem_of_getElem? (i := 3) rfl)) (by decide) (by decide)) (g := (mkF m 42 #[.val (.int p1), .val (.int p2), .val (.int (0 : Int32)), .val (.int (0 : Int32)), .val (.ref u0), .val (.ref u0), .val (.ref u0)] [(.int (0 : Int32)), (.ref u0)])) rfl (by rw [hml]; rfl) (argsL := [(.int (0 : Int32))]) (rest := [(.ref u0)]) (lenOf own_pd1 rfl) rfl (by show 2 * 0 + _ ≤ _; exact Nat.le_of_eq rfl) (hb hby at_42) (fun _ _ => ⟨rfl, e13, (by decide : 0 + 0 ≤ _), (by decide : 0 + 0 ≤ _)⟩)
      dsimp only [Pt.U, Pt.locs, Pt.cells, Pt.slots] at X14 l14 y14 z14 st14 hQ14
      subst l14 y14 z14
      obtain ⟨rfl, N14q, e14⟩ := hQ14
      have N14 := Fr.app N13 N14q
      refine own_by st14 ?_
      show own_End p e below _ (T14.setTop (mkF m 45 #[.val (.int p1), .val (.int p2), .val (.int (0 : Int32)), .val (.int (0 : Int32)), .val (.ref u0), .val (.ref u0), .val (.ref u0)] [(.ref u0), (.ref u0)]))
      refine own_by (fun _ k => Jvm.RoadKit.acmp (g := (mkF m 45 #[.val (.int p1), .val (.int p2), .val (.int (0 : Int32)), .val (.int (0 : Int32)), .val (.ref u0), .val (.ref u0), .val (.ref u0)] [(.ref u0), (.ref u0)])) X14 hx rfl rfl rfl (pc0 := 45) (pc' := 48) (same := true) rfl (hb hby at_45) rfl (decide_eq_true rfl) (by decide) (by decide) k) ?_
      show own_End p e below _ (T14.setTop (mkF m 48 #[.val (.int p1), .val (.int p2), .val (.int (0 : Int32)), .val (.int (0 : Int32)), .val (.ref u0), .val (.ref u0), .val (.ref u0)] []))
      refine own_by (fun _ k => XS.iconst X14.here hx rfl (hb hby at_48) k) ?_
      show own_End p e below _ (T14.setTop (mkF m 49 #[.val (.int p1), .val (.int p2), .val (.int (0 : Int32)), .val (.int (0 : Int32)), .val (.ref u0), .val (.ref u0), .val (.ref u0)] [(.int (1 : Int32))]))
      refine own_by (fun _ k => XS.goto X14.here hx rfl (pc0 := 49) (pc' := 53) rfl (hb hby at_49) (by decide) (by decide) k) ?_
      show own_End p e below _ (T14.setTop (mkF m 53 #[.val (.int p1), .val (.int p2), .val (.int (0 : Int32)), .val (.int (0 : Int32)), .val (.ref u0), .val (.ref u0), .val (.ref u0)] [(.int (1 : Int32))]))
      obtain ⟨fs, hr, hrun, hended, hW, hsame⟩ := X14.leave (v := (some (.int (1 : Int32)))) (fun h => by rw [Bd.returns] at h; cases h)
      refine ⟨_, _, retN X14 hx (t := .boolean) Bd.returns (by simp) (hb hby at_53) hr, hrun, hended, _, _, rfl, ?_, ⟨_, rfl⟩, hW, hsame.mono (by decide) (by decide)⟩
      exact ⟨rfl, N14⟩
    · -- case 1
      rw [hq2, hq3]
      show own_End p e below _ (s₁.setTop (mkF m 14 #[.val (.int p1), .val (.int p2), .val (.int (0 : Int32)), .val (.int (1 : Int32)), .unset, .unset, .unset] []))
      refine own_by (fun _ k => XS.iloadN X0.here hx rfl (hb hby at_14) rfl k) ?_
      show own_End p e below _ (s₁.setTop (mkF m 15 #[.val (.int p1), .val (.int p2), .val (.int (0 : Int32)), .val (.int (1 : Int32)), .unset, .unset, .unset] [(.int (0 : Int32))]))
      obtain ⟨_, _, ⟨T15, L15, k15, n15⟩, -, X15, ⟨Lc15, hQ15, l15, y15, z15⟩, st15⟩ := Jvm.LawKit.callS X0 hx (y := (⟨"com/example/orderly_commit/orderlycommit/jdbc/StatementKindWeightierPinLaw", "kindOf", "(I)Lcom/example/orderly_commit/orderlycommit/jdbc/StatementKind;"⟩ : MethodName)) hown (mvT hZ (hw _ (List.mem_of_getElem? (i := 1) rfl))) (mvT hZ (hw _ (List.mem_of_getElem? (i := 2) rfl))) (mvT hZ (hw _ (List.mem_of_getElem? (i := 3) rfl))) (mvT hZ (hw _ (List.mem_of_getElem? (i := 4) rfl))) (by decide) (own_back (W := 0) (own_kind0 l Z a0 hw [] u0 u1 u2 h0 n0 O S_u0 S_u1 S_u2) hZ (hw _ (List.mem_of_getElem? (i := 4) rfl)) (hw _ (List.mem_of_getElem? (i := 3) rfl)) (by decide) (by decide)) (g := (mkF m 15 #[.val (.int p1), .val (.int p2), .val (.int (0 : Int32)), .val (.int (1 : Int32)), .unset, .unset, .unset] [(.int (0 : Int32))])) rfl (by rw [hml]; rfl) (argsL := [(.int (0 : Int32))]) (rest := []) (lenOf own_pd1 rfl) rfl (by show 2 * 0 + _ ≤ _; exact Nat.le_of_eq rfl) (hb hby at_15) (fun _ _ => ⟨rfl, e0, (by decide : 0 + 0 ≤ _), (by decide : 0 + 0 ≤ _)⟩)
      dsimp only [Pt.U, Pt.locs, Pt.cells, Pt.slots] at X15 l15 y15 z15 st15 hQ15
      subst l15 y15 z15
      obtain ⟨rfl, N15q, e15⟩ := hQ15
      have N15 := Fr.app N0 N15q
      refine own_by st15 ?_
      show own_End p e below _ (T15.setTop (mkF m 18 #[.val (.int p1), .val (.int p2), .val (.int (0 : Int32)), .val (.int (1 : Int32)), .unset, .unset, .unset] [(.ref u0)]))
      refine own_by (fun _ k => XS.astore X15.here hx rfl (hb hby at_18) rfl rfl (l' := #[.val (.int p1), .val (.int p2), .val (.int (0 : Int32)), .val (.int (1 : Int32)), .val (.ref u0), .unset, .unset]) rfl k) ?_
      show own_End p e below _ (T15.setTop (mkF m 20 #[.val (.int p1), .val (.int p2), .val (.int (0 : Int32)), .val (.int (1 : Int32)), .val (.ref u0), .unset, .unset] []))
      refine own_by (fun _ k => XS.iloadN X15.here hx rfl (hb hby at_20) rfl k) ?_
      show own_End p e below _ (T15.setTop (mkF m 21 #[.val (.int p1), .val (.int p2), .val (.int (0 : Int32)), .val (.int (1 : Int32)), .val (.ref u0), .unset, .unset] [(.int (1 : Int32))]))
      obtain ⟨_, _, ⟨T16, L16, k16, n16⟩, -, X16, ⟨Lc16, hQ16, l16, y16, z16⟩, st16⟩ := Jvm.LawKit.callS X15 hx (y := (⟨"com/example/orderly_commit/orderlycommit/jdbc/StatementKindWeightierPinLaw", "kindOf", "(I)Lcom/example/orderly_commit/orderlycommit/jdbc/StatementKind;"⟩ : MethodName)) hown (mvT hZ (hw _ (List.mem_of_getElem? (i := 1) rfl))) (mvT hZ (hw _ (List.mem_of_getElem? (i := 2) rfl))) (mvT hZ (hw _ (List.mem_of_getElem? (i := 3) rfl))) (mvT hZ (hw _ (List.mem_of_getElem? (i := 4) rfl))) (by decide) (own_back (W := 0) (own_kind1 l Z a0 hw [] u0 u1 u2 h0 n0 O S_u0 S_u1 S_u2) hZ (hw _ (List.mem_of_getElem? (i := 4) rfl)) (hw _ (List.mem_of_getElem? (i := 3) rfl)) (by decide) (by decide)) (g := (mkF m 21 #[.val (.int p1), .val (.int p2), .val (.int (0 : Int32)), .val (.int (1 : Int32)), .val (.ref u0), .unset, .unset] [(.int (1 : Int32))])) rfl (by rw [hml]; rfl) (argsL := [(.int (1 : Int32))]) (rest := []) (lenOf own_pd1 rfl) rfl (by show 2 * 0 + _ ≤ _; exact Nat.le_of_eq rfl) (hb hby at_21) (fun _ _ => ⟨rfl, e15, (by decide : 0 + 0 ≤ _), (by decide : 0 + 0 ≤ _)⟩)
      dsimp only [Pt.U, Pt.locs, Pt.cells, Pt.slots] at X16 l16 y16 z16 st16 hQ16
      subst l16 y16 z16
      obtain ⟨rfl, N16q, e16⟩ := hQ16
      have N16 := Fr.app N15 N16q
      refine own_by st16 ?_
      show own_End p e below _ (T16.setTop (mkF m 24 #[.val (.int p1), .val (.int p2), .val (.int (0 : Int32)), .val (.int (1 : Int32)), .val (.ref u0), .unset, .unset] [(.ref u1)]))
      refine own_by (fun _ k => XS.astore X16.here hx rfl (hb hby at_24) rfl rfl (l' := #[.val (.int p1), .val (.int p2), .val (.int (0 : Int32)), .val (.int (1 : Int32)), .val (.ref u0), .val (.ref u1), .unset]) rfl k) ?_
      show own_End p e below _ (T16.setTop (mkF m 26 #[.val (.int p1), .val (.int p2), .val (.int (0 : Int32)), .val (.int (1 : Int32)), .val (.ref u0), .val (.ref u1), .unset] []))
      refine own_by (fun _ k => XS.aload X16.here hx rfl (hb hby at_26) rfl rfl k) ?_
      show own_End p e below _ (T16.setTop (mkF m 28 #[.val (.int p1), .val (.int p2), .val (.int (0 : Int32)), .val (.int (1 : Int32)), .val (.ref u0), .val (.ref u1), .unset] [(.ref u0)]))
      refine own_by (fun _ k => XS.aload X16.here hx rfl (hb hby at_28) rfl rfl k) ?_
      show own_End p e below _ (T16.setTop (mkF m 30 #[.val (.int p1), .val (.int p2), .val (.int (0 : Int32)), .val (.int (1 : Int32)), .val (.ref u0), .val (.ref u1), .unset] [(.ref u1), (.ref u0)]))
      obtain ⟨_, _, ⟨T17, L17, k17, n17⟩, -, X17, ⟨Lc17, hQ17, l17, y17, z17⟩, st17⟩ := Jvm.LawKit.callS X16 hx (y := (⟨"com/example/orderly_commit/orderlycommit/jdbc/StatementKind", "weightier", "(Lcom/example/orderly_commit/orderlycommit/jdbc/StatementKind;Lcom/example/orderly_commit/orderlycommit/jdbc/StatementKind;)Lcom/example/orderly_commit/orderlycommit/jdbc/StatementKind;"⟩ : MethodName)) hown (mvT hZ (hw _ (List.mem_of_getElem? (i := 8) rfl))) (mvT hZ (hw _ (List.mem_of_getElem? (i := 9) rfl))) (mvT hZ (hw _ (List.mem_of_getElem? (i := 6) rfl))) (mvT hZ (hw _ (List.mem_of_getElem? (i := 10) rfl))) (by decide) (own_back (W := 0) (own_wei l Z a0 hw [] u0 u1 u1 0 1 h0 n0 O E_u0 E_u1 F_u0 F_u1 hM (Or.inl ⟨by decide, rfl⟩)) hZ (hw _ (List.mem_of_getElem? (i := 10) rfl)) (hw _ (List.mem_of_getElem? (i := 6) rfl)) (by decide) (by decide)) (g := (mkF m 30 #[.val (.int p1), .val (.int p2), .val (.int (0 : Int32)), .val (.int (1 : Int32)), .val (.ref u0), .val (.ref u1), .unset] [(.ref u1), (.ref u0)])) rfl (by rw [hml]; rfl) (argsL := [(.ref u0), (.ref u1)]) (rest := []) (lenOf own_pd2 rfl) rfl (by show 2 * 0 + _ ≤ _; exact Nat.le_of_eq rfl) (hb hby at_30) (fun _ _ => ⟨rfl, e16, (by decide : 0 + 0 ≤ _), (by decide : 0 + 0 ≤ _)⟩)
      dsimp only [Pt.U, Pt.locs, Pt.cells, Pt.slots] at X17 l17 y17 z17 st17 hQ17
      subst l17 y17 z17
      obtain ⟨rfl, N17q, e17⟩ := hQ17
      have N17 := Fr.app N16 N17q
      refine own_by st17 ?_
      show own_End p e below _ (T17.setTop (mkF m 33 #[.val (.int p1), .val (.int p2), .val (.int (0 : Int32)), .val (.int (1 : Int32)), .val (.ref u0), .val (.ref u1), .unset] [(.ref u1)]))
      refine own_by (fun _ k => XS.astore X17.here hx rfl (hb hby at_33) rfl rfl (l' := #[.val (.int p1), .val (.int p2), .val (.int (0 : Int32)), .val (.int (1 : Int32)), .val (.ref u0), .val (.ref u1), .val (.ref u1)]) rfl k) ?_
      show own_End p e below _ (T17.setTop (mkF m 35 #[.val (.int p1), .val (.int p2), .val (.int (0 : Int32)), .val (.int (1 : Int32)), .val (.ref u0), .val (.ref u1), .val (.ref u1)] []))
      refine own_by (fun _ k => XS.aload X17.here hx rfl (hb hby at_35) rfl rfl k) ?_
      show own_End p e below _ (T17.setTop (mkF m 37 #[.val (.int p1), .val (.int p2), .val (.int (0 : Int32)), .val (.int (1 : Int32)), .val (.ref u0), .val (.ref u1), .val (.ref u1)] [(.ref u1)]))
      refine own_by (fun _ k => XS.iloadN X17.here hx rfl (hb hby at_37) rfl k) ?_
      show own_End p e below _ (T17.setTop (mkF m 38 #[.val (.int p1), .val (.int p2), .val (.int (0 : Int32)), .val (.int (1 : Int32)), .val (.ref u0), .val (.ref u1), .val (.ref u1)] [(.int (0 : Int32)), (.ref u1)]))
      refine own_by (fun _ k => XS.iloadN X17.here hx rfl (hb hby at_38) rfl k) ?_
      show own_End p e below _ (T17.setTop (mkF m 39 #[.val (.int p1), .val (.int p2), .val (.int (0 : Int32)), .val (.int (1 : Int32)), .val (.ref u0), .val (.ref u1), .val (.ref u1)] [(.int (1 : Int32)), (.int (0 : Int32)), (.ref u1)]))
      obtain ⟨_, _, ⟨T18, L18, k18, n18⟩, -, X18, ⟨Lc18, hQ18, l18, y18, z18⟩, st18⟩ := Jvm.LawKit.callS X17 hx (y := (⟨"java/lang/Math", "max", "(II)I"⟩ : MethodName)) hown (mvT hZ (hw _ (List.mem_of_getElem? (i := 26) rfl))) (mvT hZ (hw _ (List.mem_of_getElem? (i := 27) rfl))) (mvT hZ (hw _ (List.mem_of_getElem? (i := 28) rfl))) (mvT hZ (hw _ (List.mem_of_getElem? (i := 29) rfl))) (by decide) (own_back (W := 1) (own_max01 l Z a0 hw [] h0 n0) hZ (hw _ (List.mem_of_getElem? (i := 29) rfl)) (hw _ (List.mem_of_getElem? (i := 28) rfl)) (by decide) (by decide)) (g := (mkF m 39 #[.val (.int p1), .val (.int p2), .val (.int (0 : Int32)), .val (.int (1 : Int32)), .val (.ref u0), .val (.ref u1), .val (.ref u1)] [(.int (1 : Int32)), (.int (0 : Int32)), (.ref u1)])) rfl (by rw [hml]; rfl) (argsL := [(.int (0 : Int32)), (.int (1 : Int32))]) (rest := [(.ref u1)]) (lenOf own_pd3 rfl) rfl (by show 2 * 0 + _ ≤ _; exact Nat.le_of_eq rfl) (hb hby at_39) (fun _ _ => ⟨rfl, e17, (by decide : 0 + 0 ≤ _), (by decide : 0 + 0 ≤ _)⟩)
      dsimp only [Pt.U, Pt.locs, Pt.cells, Pt.slots] at X18 l18 y18 z18 st18 hQ18
      subst l18 y18 z18
      obtain ⟨rfl, N18q, e18⟩ := hQ18
      have N18 := Fr.app N17 N18q
      refine own_by st18 ?_
      show own_End p e below _ (T18.setTop (mkF m 42 #[.val (.int p1), .val (.int p2), .val (.int (0 : Int32)), .val (.int (1 : Int32)), .val (.ref u0), .val (.ref u1), .val (.ref u1)] [(.int (1 : Int32)), (.ref u1)]))
      obtain ⟨_, _, ⟨T19, L19, k19, n19⟩, -, X19, ⟨Lc19, hQ19, l19, y19, z19⟩, st19⟩ := Jvm.LawKit.callS X18 hx (y := (⟨"com/example/orderly_commit/orderlycommit/jdbc/StatementKindWeightierPinLaw", "kindOf", "(I)Lcom/example/orderly_commit/orderlycommit/jdbc/StatementKind;"⟩ : MethodName)) hown (mvT hZ (hw _ (List.mem_of_getElem? (i := 1) rfl))) (mvT hZ (hw _ (List.mem_of_getElem? (i := 2) rfl))) (mvT hZ (hw _ (List.mem_of_getElem? (i := 3) rfl))) (mvT hZ (hw _ (List.mem_of_getElem? (i := 4) rfl))) (by decide) (own_back (W := 1) (own_kind1 l Z a0 hw [] u0 u1 u2 h0 n0 O S_u0 S_u1 S_u2) hZ (hw _ (List.mem_of_getElem? (i := 4) rfl)) (hw _ (List.mem_of_getElem? (i := 3) rfl)) (by decide) (by decide)) (g := (mkF m 42 #[.val (.int p1), .val (.int p2), .val (.int (0 : Int32)), .val (.int (1 : Int32)), .val (.ref u0), .val (.ref u1), .val (.ref u1)] [(.int (1 : Int32)), (.ref u1)])) rfl (by rw [hml]; rfl) (argsL := [(.int (1 : Int32))]) (rest := [(.ref u1)]) (lenOf own_pd1 rfl) rfl (by show 2 * 0 + _ ≤ _; exact Nat.le_of_eq rfl) (hb hby at_42) (fun _ _ => ⟨rfl, e18, (by decide : 0 + 0 ≤ _), (by decide : 0 + 0 ≤ _)⟩)
      dsimp only [Pt.U, Pt.locs, Pt.cells, Pt.slots] at X19 l19 y19 z19 st19 hQ19
      subst l19 y19 z19
      obtain ⟨rfl, N19q, e19⟩ := hQ19
      have N19 := Fr.app N18 N19q
      refine own_by st19 ?_
      show own_End p e below _ (T19.setTop (mkF m 45 #[.val (.int p1), .val (.int p2), .val (.int (0 : Int32)), .val (.int (1 : Int32)), .val (.ref u0), .val (.ref u1), .val (.ref u1)] [(.ref u1), (.ref u1)]))
      refine own_by (fun _ k => Jvm.RoadKit.acmp (g := (mkF m 45 #[.val (.int p1), .val (.int p2), .val (.int (0 : Int32)), .val (.int (1 : Int32)), .val (.ref u0), .val (.ref u1), .val (.ref u1)] [(.ref u1), (.ref u1)])) X19 hx rfl rfl rfl (pc0 := 45) (pc' := 48) (same := true) rfl (hb hby at_45) rfl (decide_eq_true rfl) (by decide) (by decide) k) ?_
      show own_End p e below _ (T19.setTop (mkF m 48 #[.val (.int p1), .val (.int p2), .val (.int (0 : Int32)), .val (.int (1 : Int32)), .val (.ref u0), .val (.ref u1), .val (.ref u1)] []))
      refine own_by (fun _ k => XS.iconst X19.here hx rfl (hb hby at_48) k) ?_
      show own_End p e below _ (T19.setTop (mkF m 49 #[.val (.int p1), .val (.int p2), .val (.int (0 : Int32)), .val (.int (1 : Int32)), .val (.ref u0), .val (.ref u1), .val (.ref u1)] [(.int (1 : Int32))]))
      refine own_by (fun _ k => XS.goto X19.here hx rfl (pc0 := 49) (pc' := 53) rfl (hb hby at_49) (by decide) (by decide) k) ?_
      show own_End p e below _ (T19.setTop (mkF m 53 #[.val (.int p1), .val (.int p2), .val (.int (0 : Int32)), .val (.int (1 : Int32)), .val (.ref u0), .val (.ref u1), .val (.ref u1)] [(.int (1 : Int32))]))
      obtain ⟨fs, hr, hrun, hended, hW, hsame⟩ := X19.leave (v := (some (.int (1 : Int32)))) (fun h => by rw [Bd.returns] at h; cases h)
      refine ⟨_, _, retN X19 hx (t := .boolean) Bd.returns (by simp) (hb hby at_53) hr, hrun, hended, _, _, rfl, ?_, ⟨_, rfl⟩, hW, hsame.mono (by decide) (by decide)⟩
      exact ⟨rfl, N19⟩
    · -- case 2
      rw [hq2, hq3]
      show own_End p e below _ (s₁.setTop (mkF m 14 #[.val (.int p1), .val (.int p2), .val (.int (0 : Int32)), .val (.int (2 : Int32)), .unset, .unset, .unset] []))
      refine own_by (fun _ k => XS.iloadN X0.here hx rfl (hb hby at_14) rfl k) ?_
      show own_End p e below _ (s₁.setTop (mkF m 15 #[.val (.int p1), .val (.int p2), .val (.int (0 : Int32)), .val (.int (2 : Int32)), .unset, .unset, .unset] [(.int (0 : Int32))]))
      obtain ⟨_, _, ⟨T20, L20, k20, n20⟩, -, X20, ⟨Lc20, hQ20, l20, y20, z20⟩, st20⟩ := Jvm.LawKit.callS X0 hx (y := (⟨"com/example/orderly_commit/orderlycommit/jdbc/StatementKindWeightierPinLaw", "kindOf", "(I)Lcom/example/orderly_commit/orderlycommit/jdbc/StatementKind;"⟩ : MethodName)) hown (mvT hZ (hw _ (List.mem_of_getElem? (i := 1) rfl))) (mvT hZ (hw _ (List.mem_of_getElem? (i := 2) rfl))) (mvT hZ (hw _ (List.mem_of_getElem? (i := 3) rfl))) (mvT hZ (hw _ (List.mem_of_getElem? (i := 4) rfl))) (by decide) (own_back (W := 0) (own_kind0 l Z a0 hw [] u0 u1 u2 h0 n0 O S_u0 S_u1 S_u2) hZ (hw _ (List.mem_of_getElem? (i := 4) rfl)) (hw _ (List.mem_of_getElem? (i := 3) rfl)) (by decide) (by decide)) (g := (mkF m 15 #[.val (.int p1), .val (.int p2), .val (.int (0 : Int32)), .val (.int (2 : Int32)), .unset, .unset, .unset] [(.int (0 : Int32))])) rfl (by rw [hml]; rfl) (argsL := [(.int (0 : Int32))]) (rest := []) (lenOf own_pd1 rfl) rfl (by show 2 * 0 + _ ≤ _; exact Nat.le_of_eq rfl) (hb hby at_15) (fun _ _ => ⟨rfl, e0, (by decide : 0 + 0 ≤ _), (by decide : 0 + 0 ≤ _)⟩)
      dsimp only [Pt.U, Pt.locs, Pt.cells, Pt.slots] at X20 l20 y20 z20 st20 hQ20
      subst l20 y20 z20
      obtain ⟨rfl, N20q, e20⟩ := hQ20
      have N20 := Fr.app N0 N20q
      refine own_by st20 ?_
      show own_End p e below _ (T20.setTop (mkF m 18 #[.val (.int p1), .val (.int p2), .val (.int (0 : Int32)), .val (.int (2 : Int32)), .unset, .unset, .unset] [(.ref u0)]))
      refine own_by (fun _ k => XS.astore X20.here hx rfl (hb hby at_18) rfl rfl (l' := #[.val (.int p1), .val (.int p2), .val (.int (0 : Int32)), .val (.int (2 : Int32)), .val (.ref u0), .unset, .unset]) rfl k) ?_
      show own_End p e below _ (T20.setTop (mkF m 20 #[.val (.int p1), .val (.int p2), .val (.int (0 : Int32)), .val (.int (2 : Int32)), .val (.ref u0), .unset, .unset] []))
      refine own_by (fun _ k => XS.iloadN X20.here hx rfl (hb hby at_20) rfl k) ?_
      show own_End p e below _ (T20.setTop (mkF m 21 #[.val (.int p1), .val (.int p2), .val (.int (0 : Int32)), .val (.int (2 : Int32)), .val (.ref u0), .unset, .unset] [(.int (2 : Int32))]))
      obtain ⟨_, _, ⟨T21, L21, k21, n21⟩, -, X21, ⟨Lc21, hQ21, l21, y21, z21⟩, st21⟩ := Jvm.LawKit.callS X20 hx (y := (⟨"com/example/orderly_commit/orderlycommit/jdbc/StatementKindWeightierPinLaw", "kindOf", "(I)Lcom/example/orderly_commit/orderlycommit/jdbc/StatementKind;"⟩ : MethodName)) hown (mvT hZ (hw _ (List.mem_of_getElem? (i := 1) rfl))) (mvT hZ (hw _ (List.mem_of_getElem? (i := 2) rfl))) (mvT hZ (hw _ (List.mem_of_getElem? (i := 3) rfl))) (mvT hZ (hw _ (List.mem_of_getElem? (i := 4) rfl))) (by decide) (own_back (W := 0) (own_kind2 l Z a0 hw [] u0 u1 u2 h0 n0 O S_u0 S_u1 S_u2) hZ (hw _ (List.mem_of_getElem? (i := 4) rfl)) (hw _ (List.mem_of_getElem? (i := 3) rfl)) (by decide) (by decide)) (g := (mkF m 21 #[.val (.int p1), .val (.int p2), .val (.int (0 : Int32)), .val (.int (2 : Int32)), .val (.ref u0), .unset, .unset] [(.int (2 : Int32))])) rfl (by rw [hml]; rfl) (argsL := [(.int (2 : Int32))]) (rest := []) (lenOf own_pd1 rfl) rfl (by show 2 * 0 + _ ≤ _; exact Nat.le_of_eq rfl) (hb hby at_21) (fun _ _ => ⟨rfl, e20, (by decide : 0 + 0 ≤ _), (by decide : 0 + 0 ≤ _)⟩)
      dsimp only [Pt.U, Pt.locs, Pt.cells, Pt.slots] at X21 l21 y21 z21 st21 hQ21
      subst l21 y21 z21
      obtain ⟨rfl, N21q, e21⟩ := hQ21
      have N21 := Fr.app N20 N21q
      refine own_by st21 ?_
      show own_End p e below _ (T21.setTop (mkF m 24 #[.val (.int p1), .val (.int p2), .val (.int (0 : Int32)), .val (.int (2 : Int32)), .val (.ref u0), .unset, .unset] [(.ref u2)]))
      refine own_by (fun _ k => XS.astore X21.here hx rfl (hb hby at_24) rfl rfl (l' := #[.val (.int p1), .val (.int p2), .val (.int (0 : Int32)), .val (.int (2 : Int32)), .val (.ref u0), .val (.ref u2), .unset]) rfl k) ?_
      show own_End p e below _ (T21.setTop (mkF m 26 #[.val (.int p1), .val (.int p2), .val (.int (0 : Int32)), .val (.int (2 : Int32)), .val (.ref u0), .val (.ref u2), .unset] []))
      refine own_by (fun _ k => XS.aload X21.here hx rfl (hb hby at_26) rfl rfl k) ?_
      show own_End p e below _ (T21.setTop (mkF m 28 #[.val (.int p1), .val (.int p2), .val (.int (0 : Int32)), .val (.int (2 : Int32)), .val (.ref u0), .val (.ref u2), .unset] [(.ref u0)]))
      refine own_by (fun _ k => XS.aload X21.here hx rfl (hb hby at_28) rfl rfl k) ?_
      show own_End p e below _ (T21.setTop (mkF m 30 #[.val (.int p1), .val (.int p2), .val (.int (0 : Int32)), .val (.int (2 : Int32)), .val (.ref u0), .val (.ref u2), .unset] [(.ref u2), (.ref u0)]))
      obtain ⟨_, _, ⟨T22, L22, k22, n22⟩, -, X22, ⟨Lc22, hQ22, l22, y22, z22⟩, st22⟩ := Jvm.LawKit.callS X21 hx (y := (⟨"com/example/orderly_commit/orderlycommit/jdbc/StatementKind", "weightier", "(Lcom/example/orderly_commit/orderlycommit/jdbc/StatementKind;Lcom/example/orderly_commit/orderlycommit/jdbc/StatementKind;)Lcom/example/orderly_commit/orderlycommit/jdbc/StatementKind;"⟩ : MethodName)) hown (mvT hZ (hw _ (List.mem_of_getElem? (i := 8) rfl))) (mvT hZ (hw _ (List.mem_of_getElem? (i := 9) rfl))) (mvT hZ (hw _ (List.mem_of_getElem? (i := 6) rfl))) (mvT hZ (hw _ (List.mem_of_getElem? (i := 10) rfl))) (by decide) (own_back (W := 0) (own_wei l Z a0 hw [] u0 u2 u2 0 2 h0 n0 O E_u0 E_u2 F_u0 F_u2 hM (Or.inl ⟨by decide, rfl⟩)) hZ (hw _ (List.mem_of_getElem? (i := 10) rfl)) (hw _ (List.mem_of_getElem? (i := 6) rfl)) (by decide) (by decide)) (g := (mkF m 30 #[.val (.int p1), .val (.int p2), .val (.int (0 : Int32)), .val (.int (2 : Int32)), .val (.ref u0), .val (.ref u2), .unset] [(.ref u2), (.ref u0)])) rfl (by rw [hml]; rfl) (argsL := [(.ref u0), (.ref u2)]) (rest := []) (lenOf own_pd2 rfl) rfl (by show 2 * 0 + _ ≤ _; exact Nat.le_of_eq rfl) (hb hby at_30) (fun _ _ => ⟨rfl, e21, (by decide : 0 + 0 ≤ _), (by decide : 0 + 0 ≤ _)⟩)
      dsimp only [Pt.U, Pt.locs, Pt.cells, Pt.slots] at X22 l22 y22 z22 st22 hQ22
      subst l22 y22 z22
      obtain ⟨rfl, N22q, e22⟩ := hQ22
      have N22 := Fr.app N21 N22q
      refine own_by st22 ?_
      show own_End p e below _ (T22.setTop (mkF m 33 #[.val (.int p1), .val (.int p2), .val (.int (0 : Int32)), .val (.int (2 : Int32)), .val (.ref u0), .val (.ref u2), .unset] [(.ref u2)]))
      refine own_by (fun _ k => XS.astore X22.here hx rfl (hb hby at_33) rfl rfl (l' := #[.val (.int p1), .val (.int p2), .val (.int (0 : Int32)), .val (.int (2 : Int32)), .val (.ref u0), .val (.ref u2), .val (.ref u2)]) rfl k) ?_
      show own_End p e below _ (T22.setTop (mkF m 35 #[.val (.int p1), .val (.int p2), .val (.int (0 : Int32)), .val (.int (2 : Int32)), .val (.ref u0), .val (.ref u2), .val (.ref u2)] []))
      refine own_by (fun _ k => XS.aload X22.here hx rfl (hb hby at_35) rfl rfl k) ?_
      show own_End p e below _ (T22.setTop (mkF m 37 #[.val (.int p1), .val (.int p2), .val (.int (0 : Int32)), .val (.int (2 : Int32)), .val (.ref u0), .val (.ref u2), .val (.ref u2)] [(.ref u2)]))
      refine own_by (fun _ k => XS.iloadN X22.here hx rfl (hb hby at_37) rfl k) ?_
      show own_End p e below _ (T22.setTop (mkF m 38 #[.val (.int p1), .val (.int p2), .val (.int (0 : Int32)), .val (.int (2 : Int32)), .val (.ref u0), .val (.ref u2), .val (.ref u2)] [(.int (0 : Int32)), (.ref u2)]))
      refine own_by (fun _ k => XS.iloadN X22.here hx rfl (hb hby at_38) rfl k) ?_
      show own_End p e below _ (T22.setTop (mkF m 39 #[.val (.int p1), .val (.int p2), .val (.int (0 : Int32)), .val (.int (2 : Int32)), .val (.ref u0), .val (.ref u2), .val (.ref u2)] [(.int (2 : Int32)), (.int (0 : Int32)), (.ref u2)]))
      obtain ⟨_, _, ⟨T23, L23, k23, n23⟩, -, X23, ⟨Lc23, hQ23, l23, y23, z23⟩, st23⟩ := Jvm.LawKit.callS X22 hx (y := (⟨"java/lang/Math", "max", "(II)I"⟩ : MethodName)) hown (mvT hZ (hw _ (List.mem_of_getElem? (i := 26) rfl))) (mvT hZ (hw _ (List.mem_of_getElem? (i := 27) rfl))) (mvT hZ (hw _ (List.mem_of_getElem? (i := 28) rfl))) (mvT hZ (hw _ (List.mem_of_getElem? (i := 29) rfl))) (by decide) (own_back (W := 1) (own_max02 l Z a0 hw [] h0 n0) hZ (hw _ (List.mem_of_getElem? (i := 29) rfl)) (hw _ (List.mem_of_getElem? (i := 28) rfl)) (by decide) (by decide)) (g := (mkF m 39 #[.val (.int p1), .val (.int p2), .val (.int (0 : Int32)), .val (.int (2 : Int32)), .val (.ref u0), .val (.ref u2), .val (.ref u2)] [(.int (2 : Int32)), (.int (0 : Int32)), (.ref u2)])) rfl (by rw [hml]; rfl) (argsL := [(.int (0 : Int32)), (.int (2 : Int32))]) (rest := [(.ref u2)]) (lenOf own_pd3 rfl) rfl (by show 2 * 0 + _ ≤ _; exact Nat.le_of_eq rfl) (hb hby at_39) (fun _ _ => ⟨rfl, e22, (by decide : 0 + 0 ≤ _), (by decide : 0 + 0 ≤ _)⟩)
      dsimp only [Pt.U, Pt.locs, Pt.cells, Pt.slots] at X23 l23 y23 z23 st23 hQ23
      subst l23 y23 z23
      obtain ⟨rfl, N23q, e23⟩ := hQ23
      have N23 := Fr.app N22 N23q
      refine own_by st23 ?_
      show own_End p e below _ (T23.setTop (mkF m 42 #[.val (.int p1), .val (.int p2), .val (.int (0 : Int32)), .val (.int (2 : Int32)), .val (.ref u0), .val (.ref u2), .val (.ref u2)] [(.int (2 : Int32)), (.ref u2)]))
      obtain ⟨_, _, ⟨T24, L24, k24, n24⟩, -, X24, ⟨Lc24, hQ24, l24, y24, z24⟩, st24⟩ := Jvm.LawKit.callS X23 hx (y := (⟨"com/example/orderly_commit/orderlycommit/jdbc/StatementKindWeightierPinLaw", "kindOf", "(I)Lcom/example/orderly_commit/orderlycommit/jdbc/StatementKind;"⟩ : MethodName)) hown (mvT hZ (hw _ (List.mem_of_getElem? (i := 1) rfl))) (mvT hZ (hw _ (List.mem_of_getElem? (i := 2) rfl))) (mvT hZ (hw _ (List.mem_of_getElem? (i := 3) rfl))) (mvT hZ (hw _ (List.mem_of_getElem? (i := 4) rfl))) (by decide) (own_back (W := 1) (own_kind2 l Z a0 hw [] u0 u1 u2 h0 n0 O S_u0 S_u1 S_u2) hZ (hw _ (List.mem_of_getElem? (i := 4) rfl)) (hw _ (List.mem_of_getElem? (i := 3) rfl)) (by decide) (by decide)) (g := (mkF m 42 #[.val (.int p1), .val (.int p2), .val (.int (0 : Int32)), .val (.int (2 : Int32)), .val (.ref u0), .val (.ref u2), .val (.ref u2)] [(.int (2 : Int32)), (.ref u2)])) rfl (by rw [hml]; rfl) (argsL := [(.int (2 : Int32))]) (rest := [(.ref u2)]) (lenOf own_pd1 rfl) rfl (by show 2 * 0 + _ ≤ _; exact Nat.le_of_eq rfl) (hb hby at_42) (fun _ _ => ⟨rfl, e23, (by decide : 0 + 0 ≤ _), (by decide : 0 + 0 ≤ _)⟩)
      dsimp only [Pt.U, Pt.locs, Pt.cells, Pt.slots] at X24 l24 y24 z24 st24 hQ24
      subst l24 y24 z24
      obtain ⟨rfl, N24q, e24⟩ := hQ24
      have N24 := Fr.app N23 N24q
      refine own_by st24 ?_
      show own_End p e below _ (T24.setTop (mkF m 45 #[.val (.int p1), .val (.int p2), .val (.int (0 : Int32)), .val (.int (2 : Int32)), .val (.ref u0), .val (.ref u2), .val (.ref u2)] [(.ref u2), (.ref u2)]))
      refine own_by (fun _ k => Jvm.RoadKit.acmp (g := (mkF m 45 #[.val (.int p1), .val (.int p2), .val (.int (0 : Int32)), .val (.int (2 : Int32)), .val (.ref u0), .val (.ref u2), .val (.ref u2)] [(.ref u2), (.ref u2)])) X24 hx rfl rfl rfl (pc0 := 45) (pc' := 48) (same := true) rfl (hb hby at_45) rfl (decide_eq_true rfl) (by decide) (by decide) k) ?_
      show own_End p e below _ (T24.setTop (mkF m 48 #[.val (.int p1), .val (.int p2), .val (.int (0 : Int32)), .val (.int (2 : Int32)), .val (.ref u0), .val (.ref u2), .val (.ref u2)] []))
      refine own_by (fun _ k => XS.iconst X24.here hx rfl (hb hby at_48) k) ?_
      show own_End p e below _ (T24.setTop (mkF m 49 #[.val (.int p1), .val (.int p2), .val (.int (0 : Int32)), .val (.int (2 : Int32)), .val (.ref u0), .val (.ref u2), .val (.ref u2)] [(.int (1 : Int32))]))
      refine own_by (fun _ k => XS.goto X24.here hx rfl (pc0 := 49) (pc' := 53) rfl (hb hby at_49) (by decide) (by decide) k) ?_
      show own_End p e below _ (T24.setTop (mkF m 53 #[.val (.int p1), .val (.int p2), .val (.int (0 : Int32)), .val (.int (2 : Int32)), .val (.ref u0), .val (.ref u2), .val (.ref u2)] [(.int (1 : Int32))]))
      obtain ⟨fs, hr, hrun, hended, hW, hsame⟩ := X24.leave (v := (some (.int (1 : Int32)))) (fun h => by rw [Bd.returns] at h; cases h)
      refine ⟨_, _, retN X24 hx (t := .boolean) Bd.returns (by simp) (hb hby at_53) hr, hrun, hended, _, _, rfl, ?_, ⟨_, rfl⟩, hW, hsame.mono (by decide) (by decide)⟩
      exact ⟨rfl, N24⟩
  · -- ra = 1
    rcases own_three p2 with hq3 | hq3 | hq3
    · -- case 0
      rw [hq2, hq3]
      show own_End p e below _ (s₁.setTop (mkF m 14 #[.val (.int p1), .val (.int p2), .val (.int (1 : Int32)), .val (.int (0 : Int32)), .unset, .unset, .unset] []))
      refine own_by (fun _ k => XS.iloadN X0.here hx rfl (hb hby at_14) rfl k) ?_
      show own_End p e below _ (s₁.setTop (mkF m 15 #[.val (.int p1), .val (.int p2), .val (.int (1 : Int32)), .val (.int (0 : Int32)), .unset, .unset, .unset] [(.int (1 : Int32))]))
      obtain ⟨_, _, ⟨T25, L25, k25, n25⟩, -, X25, ⟨Lc25, hQ25, l25, y25, z25⟩, st25⟩ := Jvm.LawKit.callS X0 hx (y := (⟨"com/example/orderly_commit/orderlycommit/jdbc/StatementKindWeightierPinLaw", "kindOf", "(I)Lcom/example/orderly_commit/orderlycommit/jdbc/StatementKind;"⟩ : MethodName)) hown (mvT hZ (hw _ (List.mem_of_getElem? (i := 1) rfl))) (mvT hZ (hw _ (List.mem_of_getElem? (i := 2) rfl))) (mvT hZ (hw _ (List.mem_of_getElem? (i := 3) rfl))) (mvT hZ (hw _ (List.mem_of_getElem? (i := 4) rfl))) (by decide) (own_back (W := 0) (own_kind1 l Z a0 hw [] u0 u1 u2 h0 n0 O S_u0 S_u1 S_u2) hZ (hw _ (List.mem_of_getElem? (i := 4) rfl)) (hw _ (List.mem_of_getElem? (i := 3) rfl)) (by decide) (by decide)) (g := (mkF m 15 #[.val (.int p1), .val (.int p2), .val (.int (1 : Int32)), .val (.int (0 : Int32)), .unset, .unset, .unset] [(.int (1 : Int32))])) rfl (by rw [hml]; rfl) (argsL := [(.int (1 : Int32))]) (rest := []) (lenOf own_pd1 rfl) rfl (by show 2 * 0 + _ ≤ _; exact Nat.le_of_eq rfl) (hb hby at_15) (fun _ _ => ⟨rfl, e0, (by decide : 0 + 0 ≤ _), (by decide : 0 + 0 ≤ _)⟩)
      dsimp only [Pt.U, Pt.locs, Pt.cells, Pt.slots] at X25 l25 y25 z25 st25 hQ25
      subst l25 y25 z25
      obtain ⟨rfl, N25q, e25⟩ := hQ25
      have N25 := Fr.app N0 N25q
      refine own_by st25 ?_
      show own_End p e below _ (T25.setTop (mkF m 18 #[.val (.int p1), .val (.int p2), .val (.int (1 : Int32)), .val (.int (0 : Int32)), .unset, .unset, .unset] [(.ref u1)]))
      refine own_by (fun _ k => XS.astore X25.here hx rfl (hb hby at_18) rfl rfl (l' := #[.val (.int p1), .val (.int p2), .val (.int (1 : Int32)), .val (.int (0 : Int32)), .val (.ref u1), .unset, .unset]) rfl k) ?_
      show own_End p e below _ (T25.setTop (mkF m 20 #[.val (.int p1), .val (.int p2), .val (.int (1 : Int32)), .val (.int (0 : Int32)), .val (.ref u1), .unset, .unset] []))
      refine own_by (fun _ k => XS.iloadN X25.here hx rfl (hb hby at_20) rfl k) ?_
      show own_End p e below _ (T25.setTop (mkF m 21 #[.val (.int p1), .val (.int p2), .val (.int (1 : Int32)), .val (.int (0 : Int32)), .val (.ref u1), .unset, .unset] [(.int (0 : Int32))]))
      obtain ⟨_, _, ⟨T26, L26, k26, n26⟩, -, X26, ⟨Lc26, hQ26, l26, y26, z26⟩, st26⟩ := Jvm.LawKit.callS X25 hx (y := (⟨"com/example/orderly_commit/orderlycommit/jdbc/StatementKindWeightierPinLaw", "kindOf", "(I)Lcom/example/orderly_commit/orderlycommit/jdbc/StatementKind;"⟩ : MethodName)) hown (mvT hZ (hw _ (List.mem_of_getElem? (i := 1) rfl))) (mvT hZ (hw _ (List.mem_of_getElem? (i := 2) rfl))) (mvT hZ (hw _ (List.mem_of_getElem? (i := 3) rfl))) (mvT hZ (hw _ (List.mem_of_getElem? (i := 4) rfl))) (by decide) (own_back (W := 0) (own_kind0 l Z a0 hw [] u0 u1 u2 h0 n0 O S_u0 S_u1 S_u2) hZ (hw _ (List.mem_of_getElem? (i := 4) rfl)) (hw _ (List.mem_of_getElem? (i := 3) rfl)) (by decide) (by decide)) (g := (mkF m 21 #[.val (.int p1), .val (.int p2), .val (.int (1 : Int32)), .val (.int (0 : Int32)), .val (.ref u1), .unset, .unset] [(.int (0 : Int32))])) rfl (by rw [hml]; rfl) (argsL := [(.int (0 : Int32))]) (rest := []) (lenOf own_pd1 rfl) rfl (by show 2 * 0 + _ ≤ _; exact Nat.le_of_eq rfl) (hb hby at_21) (fun _ _ => ⟨rfl, e25, (by decide : 0 + 0 ≤ _), (by decide : 0 + 0 ≤ _)⟩)
      dsimp only [Pt.U, Pt.locs, Pt.cells, Pt.slots] at X26 l26 y26 z26 st26 hQ26
      subst l26 y26 z26
      obtain ⟨rfl, N26q, e26⟩ := hQ26
      have N26 := Fr.app N25 N26q
      refine own_by st26 ?_
      show own_End p e below _ (T26.setTop (mkF m 24 #[.val (.int p1), .val (.int p2), .val (.int (1 : Int32)), .val (.int (0 : Int32)), .val (.ref u1), .unset, .unset] [(.ref u0)]))
      refine own_by (fun _ k => XS.astore X26.here hx rfl (hb hby at_24) rfl rfl (l' := #[.val (.int p1), .val (.int p2), .val (.int (1 : Int32)), .val (.int (0 : Int32)), .val (.ref u1), .val (.ref u0), .unset]) rfl k) ?_
      show own_End p e below _ (T26.setTop (mkF m 26 #[.val (.int p1), .val (.int p2), .val (.int (1 : Int32)), .val (.int (0 : Int32)), .val (.ref u1), .val (.ref u0), .unset] []))
      refine own_by (fun _ k => XS.aload X26.here hx rfl (hb hby at_26) rfl rfl k) ?_
      show own_End p e below _ (T26.setTop (mkF m 28 #[.val (.int p1), .val (.int p2), .val (.int (1 : Int32)), .val (.int (0 : Int32)), .val (.ref u1), .val (.ref u0), .unset] [(.ref u1)]))
      refine own_by (fun _ k => XS.aload X26.here hx rfl (hb hby at_28) rfl rfl k) ?_
      show own_End p e below _ (T26.setTop (mkF m 30 #[.val (.int p1), .val (.int p2), .val (.int (1 : Int32)), .val (.int (0 : Int32)), .val (.ref u1), .val (.ref u0), .unset] [(.ref u0), (.ref u1)]))
      obtain ⟨_, _, ⟨T27, L27, k27, n27⟩, -, X27, ⟨Lc27, hQ27, l27, y27, z27⟩, st27⟩ := Jvm.LawKit.callS X26 hx (y := (⟨"com/example/orderly_commit/orderlycommit/jdbc/StatementKind", "weightier", "(Lcom/example/orderly_commit/orderlycommit/jdbc/StatementKind;Lcom/example/orderly_commit/orderlycommit/jdbc/StatementKind;)Lcom/example/orderly_commit/orderlycommit/jdbc/StatementKind;"⟩ : MethodName)) hown (mvT hZ (hw _ (List.mem_of_getElem? (i := 8) rfl))) (mvT hZ (hw _ (List.mem_of_getElem? (i := 9) rfl))) (mvT hZ (hw _ (List.mem_of_getElem? (i := 6) rfl))) (mvT hZ (hw _ (List.mem_of_getElem? (i := 10) rfl))) (by decide) (own_back (W := 0) (own_wei l Z a0 hw [] u1 u0 u1 1 0 h0 n0 O E_u1 E_u0 F_u1 F_u0 hM (Or.inr ⟨by decide, rfl⟩)) hZ (hw _ (List.mem_of_getElem? (i := 10) rfl)) (hw _ (List.mem_of_getElem? (i := 6) rfl)) (by decide) (by decide)) (g := (mkF m 30 #[.val (.int p1), .val (.int p2), .val (.int (1 : Int32)), .val (.int (0 : Int32)), .val (.ref u1), .val (.ref u0), .unset] [(.ref u0), (.ref u1)])) rfl (by rw [hml]; rfl) (argsL := [(.ref u1), (.ref u0)]) (rest := []) (lenOf own_pd2 rfl) rfl (by show 2 * 0 + _ ≤ _; exact Nat.le_of_eq rfl) (hb hby at_30) (fun _ _ => ⟨rfl, e26, (by decide : 0 + 0 ≤ _), (by decide : 0 + 0 ≤ _)⟩)
      dsimp only [Pt.U, Pt.locs, Pt.cells, Pt.slots] at X27 l27 y27 z27 st27 hQ27
      subst l27 y27 z27
      obtain ⟨rfl, N27q, e27⟩ := hQ27
      have N27 := Fr.app N26 N27q
      refine own_by st27 ?_
      show own_End p e below _ (T27.setTop (mkF m 33 #[.val (.int p1), .val (.int p2), .val (.int (1 : Int32)), .val (.int (0 : Int32)), .val (.ref u1), .val (.ref u0), .unset] [(.ref u1)]))
      refine own_by (fun _ k => XS.astore X27.here hx rfl (hb hby at_33) rfl rfl (l' := #[.val (.int p1), .val (.int p2), .val (.int (1 : Int32)), .val (.int (0 : Int32)), .val (.ref u1), .val (.ref u0), .val (.ref u1)]) rfl k) ?_
      show own_End p e below _ (T27.setTop (mkF m 35 #[.val (.int p1), .val (.int p2), .val (.int (1 : Int32)), .val (.int (0 : Int32)), .val (.ref u1), .val (.ref u0), .val (.ref u1)] []))
      refine own_by (fun _ k => XS.aload X27.here hx rfl (hb hby at_35) rfl rfl k) ?_
      show own_End p e below _ (T27.setTop (mkF m 37 #[.val (.int p1), .val (.int p2), .val (.int (1 : Int32)), .val (.int (0 : Int32)), .val (.ref u1), .val (.ref u0), .val (.ref u1)] [(.ref u1)]))
      refine own_by (fun _ k => XS.iloadN X27.here hx rfl (hb hby at_37) rfl k) ?_
      show own_End p e below _ (T27.setTop (mkF m 38 #[.val (.int p1), .val (.int p2), .val (.int (1 : Int32)), .val (.int (0 : Int32)), .val (.ref u1), .val (.ref u0), .val (.ref u1)] [(.int (1 : Int32)), (.ref u1)]))
      refine own_by (fun _ k => XS.iloadN X27.here hx rfl (hb hby at_38) rfl k) ?_
      show own_End p e below _ (T27.setTop (mkF m 39 #[.val (.int p1), .val (.int p2), .val (.int (1 : Int32)), .val (.int (0 : Int32)), .val (.ref u1), .val (.ref u0), .val (.ref u1)] [(.int (0 : Int32)), (.int (1 : Int32)), (.ref u1)]))
      obtain ⟨_, _, ⟨T28, L28, k28, n28⟩, -, X28, ⟨Lc28, hQ28, l28, y28, z28⟩, st28⟩ := Jvm.LawKit.callS X27 hx (y := (⟨"java/lang/Math", "max", "(II)I"⟩ : MethodName)) hown (mvT hZ (hw _ (List.mem_of_getElem? (i := 26) rfl))) (mvT hZ (hw _ (List.mem_of_getElem? (i := 27) rfl))) (mvT hZ (hw _ (List.mem_of_getElem? (i := 28) rfl))) (mvT hZ (hw _ (List.mem_of_getElem? (i := 29) rfl))) (by decide) (own_back (W := 1) (own_max10 l Z a0 hw [] h0 n0) hZ (hw _ (List.mem_of_getElem? (i := 29) rfl)) (hw _ (List.mem_of_getElem? (i := 28) rfl)) (by decide) (by decide)) (g := (mkF m 39 #[.val (.int p1), .val (.int p2), .val (.int (1 : Int32)), .val (.int (0 : Int32)), .val (.ref u1), .val (.ref u0), .val (.ref u1)] [(.int (0 : Int32)), (.int (1 : Int32)), (.ref u1)])) rfl (by rw [hml]; rfl) (argsL := [(.int (1 : Int32)), (.int (0 : Int32))]) (rest := [(.ref u1)]) (lenOf own_pd3 rfl) rfl (by show 2 * 0 + _ ≤ _; exact Nat.le_of_eq rfl) (hb hby at_39) (fun _ _ => ⟨rfl, e27, (by decide : 0 + 0 ≤ _), (by decide : 0 + 0 ≤ _)⟩)
      dsimp only [Pt.U, Pt.locs, Pt.cells, Pt.slots] at X28 l28 y28 z28 st28 hQ28
      subst l28 y28 z28
      obtain ⟨rfl, N28q, e28⟩ := hQ28
      have N28 := Fr.app N27 N28q
      refine own_by st28 ?_
      show own_End p e below _ (T28.setTop (mkF m 42 #[.val (.int p1), .val (.int p2), .val (.int (1 : Int32)), .val (.int (0 : Int32)), .val (.ref u1), .val (.ref u0), .val (.ref u1)] [(.int (1 : Int32)), (.ref u1)]))
      obtain ⟨_, _, ⟨T29, L29, k29, n29⟩, -, X29, ⟨Lc29, hQ29, l29, y29, z29⟩, st29⟩ := Jvm.LawKit.callS X28 hx (y := (⟨"com/example/orderly_commit/orderlycommit/jdbc/StatementKindWeightierPinLaw", "kindOf", "(I)Lcom/example/orderly_commit/orderlycommit/jdbc/StatementKind;"⟩ : MethodName)) hown (mvT hZ (hw _ (List.mem_of_getElem? (i := 1) rfl))) (mvT hZ (hw _ (List.mem_of_getElem? (i := 2) rfl))) (mvT hZ (hw _ (List.mem_of_getElem? (i := 3) rfl))) (mvT hZ (hw _ (List.mem_of_getElem? (i := 4) rfl))) (by decide) (own_back (W := 1) (own_kind1 l Z a0 hw [] u0 u1 u2 h0 n0 O S_u0 S_u1 S_u2) hZ (hw _ (List.mem_of_getElem? (i := 4) rfl)) (hw _ (List.mem_of_getElem? (i := 3) rfl)) (by decide) (by decide)) (g := (mkF m 42 #[.val (.int p1), .val (.int p2), .val (.int (1 : Int32)), .val (.int (0 : Int32)), .val (.ref u1), .val (.ref u0), .val (.ref u1)] [(.int (1 : Int32)), (.ref u1)])) rfl (by rw [hml]; rfl) (argsL := [(.int (1 : Int32))]) (rest := [(.ref u1)]) (lenOf own_pd1 rfl) rfl (by show 2 * 0 + _ ≤ _; exact Nat.le_of_eq rfl) (hb hby at_42) (fun _ _ => ⟨rfl, e28, (by decide : 0 + 0 ≤ _), (by decide : 0 + 0 ≤ _)⟩)
      dsimp only [Pt.U, Pt.locs, Pt.cells, Pt.slots] at X29 l29 y29 z29 st29 hQ29
      subst l29 y29 z29
      obtain ⟨rfl, N29q, e29⟩ := hQ29
      have N29 := Fr.app N28 N29q
      refine own_by st29 ?_
      show own_End p e below _ (T29.setTop (mkF m 45 #[.val (.int p1), .val (.int p2), .val (.int (1 : Int32)), .val (.int (0 : Int32)), .val (.ref u1), .val (.ref u0), .val (.ref u1)] [(.ref u1), (.ref u1)]))
      refine own_by (fun _ k => Jvm.RoadKit.acmp (g := (mkF m 45 #[.val (.int p1), .val (.int p2), .val (.int (1 : Int32)), .val (.int (0 : Int32)), .val (.ref u1), .val (.ref u0), .val (.ref u1)] [(.ref u1), (.ref u1)])) X29 hx rfl rfl rfl (pc0 := 45) (pc' := 48) (same := true) rfl (hb hby at_45) rfl (decide_eq_true rfl) (by decide) (by decide) k) ?_
      show own_End p e below _ (T29.setTop (mkF m 48 #[.val (.int p1), .val (.int p2), .val (.int (1 : Int32)), .val (.int (0 : Int32)), .val (.ref u1), .val (.ref u0), .val (.ref u1)] []))
      refine own_by (fun _ k => XS.iconst X29.here hx rfl (hb hby at_48) k) ?_
      show own_End p e below _ (T29.setTop (mkF m 49 #[.val (.int p1), .val (.int p2), .val (.int (1 : Int32)), .val (.int (0 : Int32)), .val (.ref u1), .val (.ref u0), .val (.ref u1)] [(.int (1 : Int32))]))
      refine own_by (fun _ k => XS.goto X29.here hx rfl (pc0 := 49) (pc' := 53) rfl (hb hby at_49) (by decide) (by decide) k) ?_
      show own_End p e below _ (T29.setTop (mkF m 53 #[.val (.int p1), .val (.int p2), .val (.int (1 : Int32)), .val (.int (0 : Int32)), .val (.ref u1), .val (.ref u0), .val (.ref u1)] [(.int (1 : Int32))]))
      obtain ⟨fs, hr, hrun, hended, hW, hsame⟩ := X29.leave (v := (some (.int (1 : Int32)))) (fun h => by rw [Bd.returns] at h; cases h)
      refine ⟨_, _, retN X29 hx (t := .boolean) Bd.returns (by simp) (hb hby at_53) hr, hrun, hended, _, _, rfl, ?_, ⟨_, rfl⟩, hW, hsame.mono (by decide) (by decide)⟩
      exact ⟨rfl, N29⟩
    · -- case 1
      rw [hq2, hq3]
      show own_End p e below _ (s₁.setTop (mkF m 14 #[.val (.int p1), .val (.int p2), .val (.int (1 : Int32)), .val (.int (1 : Int32)), .unset, .unset, .unset] []))
      refine own_by (fun _ k => XS.iloadN X0.here hx rfl (hb hby at_14) rfl k) ?_
      show own_End p e below _ (s₁.setTop (mkF m 15 #[.val (.int p1), .val (.int p2), .val (.int (1 : Int32)), .val (.int (1 : Int32)), .unset, .unset, .unset] [(.int (1 : Int32))]))
      obtain ⟨_, _, ⟨T30, L30, k30, n30⟩, -, X30, ⟨Lc30, hQ30, l30, y30, z30⟩, st30⟩ := Jvm.LawKit.callS X0 hx (y := (⟨"com/example/orderly_commit/orderlycommit/jdbc/StatementKindWeightierPinLaw", "kindOf", "(I)Lcom/example/orderly_commit/orderlycommit/jdbc/StatementKind;"⟩ : MethodName)) hown (mvT hZ (hw _ (List.mem_of_getElem? (i := 1) rfl))) (mvT hZ (hw _ (List.mem_of_getElem? (i := 2) rfl))) (mvT hZ (hw _ (List.mem_of_getElem? (i := 3) rfl))) (mvT hZ (hw _ (List.mem_of_getElem? (i := 4) rfl))) (by decide) (own_back (W := 0) (own_kind1 l Z a0 hw [] u0 u1 u2 h0 n0 O S_u0 S_u1 S_u2) hZ (hw _ (List.mem_of_getElem? (i := 4) rfl)) (hw _ (List.mem_of_getElem? (i := 3) rfl)) (by decide) (by decide)) (g := (mkF m 15 #[.val (.int p1), .val (.int p2), .val (.int (1 : Int32)), .val (.int (1 : Int32)), .unset, .unset, .unset] [(.int (1 : Int32))])) rfl (by rw [hml]; rfl) (argsL := [(.int (1 : Int32))]) (rest := []) (lenOf own_pd1 rfl) rfl (by show 2 * 0 + _ ≤ _; exact Nat.le_of_eq rfl) (hb hby at_15) (fun _ _ => ⟨rfl, e0, (by decide : 0 + 0 ≤ _), (by decide : 0 + 0 ≤ _)⟩)
      dsimp only [Pt.U, Pt.locs, Pt.cells, Pt.slots] at X30 l30 y30 z30 st30 hQ30
      subst l30 y30 z30
      obtain ⟨rfl, N30q, e30⟩ := hQ30
      have N30 := Fr.app N0 N30q
      refine own_by st30 ?_
      show own_End p e below _ (T30.setTop (mkF m 18 #[.val (.int p1), .val (.int p2), .val (.int (1 : Int32)), .val (.int (1 : Int32)), .unset, .unset, .unset] [(.ref u1)]))
      refine own_by (fun _ k => XS.astore X30.here hx rfl (hb hby at_18) rfl rfl (l' := #[.val (.int p1), .val (.int p2), .val (.int (1 : Int32)), .val (.int (1 : Int32)), .val (.ref u1), .unset, .unset]) rfl k) ?_
      show own_End p e below _ (T30.setTop (mkF m 20 #[.val (.int p1), .val (.int p2), .val (.int (1 : Int32)), .val (.int (1 : Int32)), .val (.ref u1), .unset, .unset] []))
      refine own_by (fun _ k => XS.iloadN X30.here hx rfl (hb hby at_20) rfl k) ?_
      show own_End p e below _ (T30.setTop (mkF m 21 #[.val (.int p1), .val (.int p2), .val (.int (1 : Int32)), .val (.int (1 : Int32)), .val (.ref u1), .unset, .unset] [(.int (1 : Int32))]))
      obtain ⟨_, _, ⟨T31, L31, k31, n31⟩, -, X31, ⟨Lc31, hQ31, l31, y31, z31⟩, st31⟩ := Jvm.LawKit.callS X30 hx (y := (⟨"com/example/orderly_commit/orderlycommit/jdbc/StatementKindWeightierPinLaw", "kindOf", "(I)Lcom/example/orderly_commit/orderlycommit/jdbc/StatementKind;"⟩ : MethodName)) hown (mvT hZ (hw _ (List.mem_of_getElem? (i := 1) rfl))) (mvT hZ (hw _ (List.mem_of_getElem? (i := 2) rfl))) (mvT hZ (hw _ (List.mem_of_getElem? (i := 3) rfl))) (mvT hZ (hw _ (List.mem_of_getElem? (i := 4) rfl))) (by decide) (own_back (W := 0) (own_kind1 l Z a0 hw [] u0 u1 u2 h0 n0 O S_u0 S_u1 S_u2) hZ (hw _ (List.mem_of_getElem? (i := 4) rfl)) (hw _ (List.mem_of_getElem? (i := 3) rfl)) (by decide) (by decide)) (g := (mkF m 21 #[.val (.int p1), .val (.int p2), .val (.int (1 : Int32)), .val (.int (1 : Int32)), .val (.ref u1), .unset, .unset] [(.int (1 : Int32))])) rfl (by rw [hml]; rfl) (argsL := [(.int (1 : Int32))]) (rest := []) (lenOf own_pd1 rfl) rfl (by show 2 * 0 + _ ≤ _; exact Nat.le_of_eq rfl) (hb hby at_21) (fun _ _ => ⟨rfl, e30, (by decide : 0 + 0 ≤ _), (by decide : 0 + 0 ≤ _)⟩)
      dsimp only [Pt.U, Pt.locs, Pt.cells, Pt.slots] at X31 l31 y31 z31 st31 hQ31
      subst l31 y31 z31
      obtain ⟨rfl, N31q, e31⟩ := hQ31
      have N31 := Fr.app N30 N31q
      refine own_by st31 ?_
      show own_End p e below _ (T31.setTop (mkF m 24 #[.val (.int p1), .val (.int p2), .val (.int (1 : Int32)), .val (.int (1 : Int32)), .val (.ref u1), .unset, .unset] [(.ref u1)]))
      refine own_by (fun _ k => XS.astore X31.here hx rfl (hb hby at_24) rfl rfl (l' := #[.val (.int p1), .val (.int p2), .val (.int (1 : Int32)), .val (.int (1 : Int32)), .val (.ref u1), .val (.ref u1), .unset]) rfl k) ?_
      show own_End p e below _ (T31.setTop (mkF m 26 #[.val (.int p1), .val (.int p2), .val (.int (1 : Int32)), .val (.int (1 : Int32)), .val (.ref u1), .val (.ref u1), .unset] []))
      refine own_by (fun _ k => XS.aload X31.here hx rfl (hb hby at_26) rfl rfl k) ?_
      show own_End p e below _ (T31.setTop (mkF m 28 #[.val (.int p1), .val (.int p2), .val (.int (1 : Int32)), .val (.int (1 : Int32)), .val (.ref u1), .val (.ref u1), .unset] [(.ref u1)]))
      refine own_by (fun _ k => XS.aload X31.here hx rfl (hb hby at_28) rfl rfl k) ?_
      show own_End p e below _ (T31.setTop (mkF m 30 #[.val (.int p1), .val (.int p2), .val (.int (1 : Int32)), .val (.int (1 : Int32)), .val (.ref u1), .val (.ref u1), .unset] [(.ref u1), (.ref u1)]))
      obtain ⟨_, _, ⟨T32, L32, k32, n32⟩, -, X32, ⟨Lc32, hQ32, l32, y32, z32⟩, st32⟩ := Jvm.LawKit.callS X31 hx (y := (⟨"com/example/orderly_commit/orderlycommit/jdbc/StatementKind", "weightier", "(Lcom/example/orderly_commit/orderlycommit/jdbc/StatementKind;Lcom/example/orderly_commit/orderlycommit/jdbc/StatementKind;)Lcom/example/orderly_commit/orderlycommit/jdbc/StatementKind;"⟩ : MethodName)) hown (mvT hZ (hw _ (List.mem_of_getElem? (i := 8) rfl))) (mvT hZ (hw _ (List.mem_of_getElem? (i := 9) rfl))) (mvT hZ (hw _ (List.mem_of_getElem? (i := 6) rfl))) (mvT hZ (hw _ (List.mem_of_getElem? (i := 10) rfl))) (by decide) (own_back (W := 0) (own_wei l Z a0 hw [] u1 u1 u1 1 1 h0 n0 O E_u1 E_u1 F_u1 F_u1 hM (Or.inr ⟨by decide, rfl⟩)) hZ (hw _ (List.mem_of_getElem? (i := 10) rfl)) (hw _ (List.mem_of_getElem? (i := 6) rfl)) (by decide) (by decide)) (g := (mkF m 30 #[.val (.int p1), .val (.int p2), .val (.int (1 : Int32)), .val (.int (1 : Int32)), .val (.ref u1), .val (.ref u1), .unset] [(.ref u1), (.ref u1)])) rfl (by rw [hml]; rfl) (argsL := [(.ref u1), (.ref u1)]) (rest := []) (lenOf own_pd2 rfl) rfl (by show 2 * 0 + _ ≤ _; exact Nat.le_of_eq rfl) (hb hby at_30) (fun _ _ => ⟨rfl, e31, (by decide : 0 + 0 ≤ _), (by decide : 0 + 0 ≤ _)⟩)
      dsimp only [Pt.U, Pt.locs, Pt.cells, Pt.slots] at X32 l32 y32 z32 st32 hQ32
      subst l32 y32 z32
      obtain ⟨rfl, N32q, e32⟩ := hQ32
      have N32 := Fr.app N31 N32q
      refine own_by st32 ?_
      show own_End p e below _ (T32.setTop (mkF m 33 #[.val (.int p1), .val (.int p2), .val (.int (1 : Int32)), .val (.int (1 : Int32)), .val (.ref u1), .val (.ref u1), .unset] [(.ref u1)]))
      refine own_by (fun _ k => XS.astore X32.here hx rfl (hb hby at_33) rfl rfl (l' := #[.val (.int p1), .val (.int p2), .val (.int (1 : Int32)), .val (.int (1 : Int32)), .val (.ref u1), .val (.ref u1), .val (.ref u1)]) rfl k) ?_
      show own_End p e below _ (T32.setTop (mkF m 35 #[.val (.int p1), .val (.int p2), .val (.int (1 : Int32)), .val (.int (1 : Int32)), .val (.ref u1), .val (.ref u1), .val (.ref u1)] []))
      refine own_by (fun _ k => XS.aload X32.here hx rfl (hb hby at_35) rfl rfl k) ?_
      show own_End p e below _ (T32.setTop (mkF m 37 #[.val (.int p1), .val (.int p2), .val (.int (1 : Int32)), .val (.int (1 : Int32)), .val (.ref u1), .val (.ref u1), .val (.ref u1)] [(.ref u1)]))
      refine own_by (fun _ k => XS.iloadN X32.here hx rfl (hb hby at_37) rfl k) ?_
      show own_End p e below _ (T32.setTop (mkF m 38 #[.val (.int p1), .val (.int p2), .val (.int (1 : Int32)), .val (.int (1 : Int32)), .val (.ref u1), .val (.ref u1), .val (.ref u1)] [(.int (1 : Int32)), (.ref u1)]))
      refine own_by (fun _ k => XS.iloadN X32.here hx rfl (hb hby at_38) rfl k) ?_
      show own_End p e below _ (T32.setTop (mkF m 39 #[.val (.int p1), .val (.int p2), .val (.int (1 : Int32)), .val (.int (1 : Int32)), .val (.ref u1), .val (.ref u1), .val (.ref u1)] [(.int (1 : Int32)), (.int (1 : Int32)), (.ref u1)]))
      obtain ⟨_, _, ⟨T33, L33, k33, n33⟩, -, X33, ⟨Lc33, hQ33, l33, y33, z33⟩, st33⟩ := Jvm.LawKit.callS X32 hx (y := (⟨"java/lang/Math", "max", "(II)I"⟩ : MethodName)) hown (mvT hZ (hw _ (List.mem_of_getElem? (i := 26) rfl))) (mvT hZ (hw _ (List.mem_of_getElem? (i := 27) rfl))) (mvT hZ (hw _ (List.mem_of_getElem? (i := 28) rfl))) (mvT hZ (hw _ (List.mem_of_getElem? (i := 29) rfl))) (by decide) (own_back (W := 1) (own_max11 l Z a0 hw [] h0 n0) hZ (hw _ (List.mem_of_getElem? (i := 29) rfl)) (hw _ (List.mem_of_getElem? (i := 28) rfl)) (by decide) (by decide)) (g := (mkF m 39 #[.val (.int p1), .val (.int p2), .val (.int (1 : Int32)), .val (.int (1 : Int32)), .val (.ref u1), .val (.ref u1), .val (.ref u1)] [(.int (1 : Int32)), (.int (1 : Int32)), (.ref u1)])) rfl (by rw [hml]; rfl) (argsL := [(.int (1 : Int32)), (.int (1 : Int32))]) (rest := [(.ref u1)]) (lenOf own_pd3 rfl) rfl (by show 2 * 0 + _ ≤ _; exact Nat.le_of_eq rfl) (hb hby at_39) (fun _ _ => ⟨rfl, e32, (by decide : 0 + 0 ≤ _), (by decide : 0 + 0 ≤ _)⟩)
      dsimp only [Pt.U, Pt.locs, Pt.cells, Pt.slots] at X33 l33 y33 z33 st33 hQ33
      subst l33 y33 z33
      obtain ⟨rfl, N33q, e33⟩ := hQ33
      have N33 := Fr.app N32 N33q
      refine own_by st33 ?_
      show own_End p e below _ (T33.setTop (mkF m 42 #[.val (.int p1), .val (.int p2), .val (.int (1 : Int32)), .val (.int (1 : Int32)), .val (.ref u1), .val (.ref u1), .val (.ref u1)] [(.int (1 : Int32)), (.ref u1)]))
      obtain ⟨_, _, ⟨T34, L34, k34, n34⟩, -, X34, ⟨Lc34, hQ34, l34, y34, z34⟩, st34⟩ := Jvm.LawKit.callS X33 hx (y := (⟨"com/example/orderly_commit/orderlycommit/jdbc/StatementKindWeightierPinLaw", "kindOf", "(I)Lcom/example/orderly_commit/orderlycommit/jdbc/StatementKind;"⟩ : MethodName)) hown (mvT hZ (hw _ (List.mem_of_getElem? (i := 1) rfl))) (mvT hZ (hw _ (List.mem_of_getElem? (i := 2) rfl))) (mvT hZ (hw _ (List.mem_of_getElem? (i := 3) rfl))) (mvT hZ (hw _ (List.mem_of_getElem? (i := 4) rfl))) (by decide) (own_back (W := 1) (own_kind1 l Z a0 hw [] u0 u1 u2 h0 n0 O S_u0 S_u1 S_u2) hZ (hw _ (List.mem_of_getElem? (i := 4) rfl)) (hw _ (List.mem_of_getElem? (i := 3) rfl)) (by decide) (by decide)) (g := (mkF m 42 #[.val (.int p1), .val (.int p2), .val (.int (1 : Int32)), .val (.int (1 : Int32)), .val (.ref u1), .val (.ref u1), .val (.ref u1)] [(.int (1 : Int32)), (.ref u1)])) rfl (by rw [hml]; rfl) (argsL := [(.int (1 : Int32))]) (rest := [(.ref u1)]) (lenOf own_pd1 rfl) rfl (by show 2 * 0 + _ ≤ _; exact Nat.le_of_eq rfl) (hb hby at_42) (fun _ _ => ⟨rfl, e33, (by decide : 0 + 0 ≤ _), (by decide : 0 + 0 ≤ _)⟩)
      dsimp only [Pt.U, Pt.locs, Pt.cells, Pt.slots] at X34 l34 y34 z34 st34 hQ34
      subst l34 y34 z34
      obtain ⟨rfl, N34q, e34⟩ := hQ34
      have N34 := Fr.app N33 N34q
      refine own_by st34 ?_
      show own_End p e below _ (T34.setTop (mkF m 45 #[.val (.int p1), .val (.int p2), .val (.int (1 : Int32)), .val (.int (1 : Int32)), .val (.ref u1), .val (.ref u1), .val (.ref u1)] [(.ref u1), (.ref u1)]))
      refine own_by (fun _ k => Jvm.RoadKit.acmp (g := (mkF m 45 #[.val (.int p1), .val (.int p2), .val (.int (1 : Int32)), .val (.int (1 : Int32)), .val (.ref u1), .val (.ref u1), .val (.ref u1)] [(.ref u1), (.ref u1)])) X34 hx rfl rfl rfl (pc0 := 45) (pc' := 48) (same := true) rfl (hb hby at_45) rfl (decide_eq_true rfl) (by decide) (by decide) k) ?_
      show own_End p e below _ (T34.setTop (mkF m 48 #[.val (.int p1), .val (.int p2), .val (.int (1 : Int32)), .val (.int (1 : Int32)), .val (.ref u1), .val (.ref u1), .val (.ref u1)] []))
      refine own_by (fun _ k => XS.iconst X34.here hx rfl (hb hby at_48) k) ?_
      show own_End p e below _ (T34.setTop (mkF m 49 #[.val (.int p1), .val (.int p2), .val (.int (1 : Int32)), .val (.int (1 : Int32)), .val (.ref u1), .val (.ref u1), .val (.ref u1)] [(.int (1 : Int32))]))
      refine own_by (fun _ k => XS.goto X34.here hx rfl (pc0 := 49) (pc' := 53) rfl (hb hby at_49) (by decide) (by decide) k) ?_
      show own_End p e below _ (T34.setTop (mkF m 53 #[.val (.int p1), .val (.int p2), .val (.int (1 : Int32)), .val (.int (1 : Int32)), .val (.ref u1), .val (.ref u1), .val (.ref u1)] [(.int (1 : Int32))]))
      obtain ⟨fs, hr, hrun, hended, hW, hsame⟩ := X34.leave (v := (some (.int (1 : Int32)))) (fun h => by rw [Bd.returns] at h; cases h)
      refine ⟨_, _, retN X34 hx (t := .boolean) Bd.returns (by simp) (hb hby at_53) hr, hrun, hended, _, _, rfl, ?_, ⟨_, rfl⟩, hW, hsame.mono (by decide) (by decide)⟩
      exact ⟨rfl, N34⟩
    · -- case 2
      rw [hq2, hq3]
      show own_End p e below _ (s₁.setTop (mkF m 14 #[.val (.int p1), .val (.int p2), .val (.int (1 : Int32)), .val (.int (2 : Int32)), .unset, .unset, .unset] []))
      refine own_by (fun _ k => XS.iloadN X0.here hx rfl (hb hby at_14) rfl k) ?_
      show own_End p e below _ (s₁.setTop (mkF m 15 #[.val (.int p1), .val (.int p2), .val (.int (1 : Int32)), .val (.int (2 : Int32)), .unset, .unset, .unset] [(.int (1 : Int32))]))
      obtain ⟨_, _, ⟨T35, L35, k35, n35⟩, -, X35, ⟨Lc35, hQ35, l35, y35, z35⟩, st35⟩ := Jvm.LawKit.callS X0 hx (y := (⟨"com/example/orderly_commit/orderlycommit/jdbc/StatementKindWeightierPinLaw", "kindOf", "(I)Lcom/example/orderly_commit/orderlycommit/jdbc/StatementKind;"⟩ : MethodName)) hown (mvT hZ (hw _ (List.mem_of_getElem? (i := 1) rfl))) (mvT hZ (hw _ (List.mem_of_getElem? (i := 2) rfl))) (mvT hZ (hw _ (List.mem_of_getElem? (i := 3) rfl))) (mvT hZ (hw _ (List.mem_of_getElem? (i := 4) rfl))) (by decide) (own_back (W := 0) (own_kind1 l Z a0 hw [] u0 u1 u2 h0 n0 O S_u0 S_u1 S_u2) hZ (hw _ (List.mem_of_getElem? (i := 4) rfl)) (hw _ (List.mem_of_getElem? (i := 3) rfl)) (by decide) (by decide)) (g := (mkF m 15 #[.val (.int p1), .val (.int p2), .val (.int (1 : Int32)), .val (.int (2 : Int32)), .unset, .unset, .unset] [(.int (1 : Int32))])) rfl (by rw [hml]; rfl) (argsL := [(.int (1 : Int32))]) (rest := []) (lenOf own_pd1 rfl) rfl (by show 2 * 0 + _ ≤ _; exact Nat.le_of_eq rfl) (hb hby at_15) (fun _ _ => ⟨rfl, e0, (by decide : 0 + 0 ≤ _), (by decide : 0 + 0 ≤ _)⟩)
      dsimp only [Pt.U, Pt.locs, Pt.cells, Pt.slots] at X35 l35 y35 z35 st35 hQ35
      subst l35 y35 z35
      obtain ⟨rfl, N35q, e35⟩ := hQ35
      have N35 := Fr.app N0 N35q
      refine own_by st35 ?_
      show own_End p e below _ (T35.setTop (mkF m 18 #[.val (.int p1), .val (.int p2), .val (.int (1 : Int32)), .val (.int (2 : Int32)), .unset, .unset, .unset] [(.ref u1)]))
      refine own_by (fun _ k => XS.astore X35.here hx rfl (hb hby at_18) rfl rfl (l' := #[.val (.int p1), .val (.int p2), .val (.int (1 : Int32)), .val (.int (2 : Int32)), .val (.ref u1), .unset, .unset]) rfl k) ?_
      show own_End p e below _ (T35.setTop (mkF m 20 #[.val (.int p1), .val (.int p2), .val (.int (1 : Int32)), .val (.int (2 : Int32)), .val (.ref u1), .unset, .unset] []))
      refine own_by (fun _ k => XS.iloadN X35.here hx rfl (hb hby at_20) rfl k) ?_
      show own_End p e below _ (T35.setTop (mkF m 21 #[.val (.int p1), .val (.int p2), .val (.int (1 : Int32)), .val (.int (2 : Int32)), .val (.ref u1), .unset, .unset] [(.int (2 : Int32))]))
      obtain ⟨_, _, ⟨T36, L36, k36, n36⟩, -, X36, ⟨Lc36, hQ36, l36, y36, z36⟩, st36⟩ := Jvm.LawKit.callS X35 hx (y := (⟨"com/example/orderly_commit/orderlycommit/jdbc/StatementKindWeightierPinLaw", "kindOf", "(I)Lcom/example/orderly_commit/orderlycommit/jdbc/StatementKind;"⟩ : MethodName)) hown (mvT hZ (hw _ (List.mem_of_getElem? (i := 1) rfl))) (mvT hZ (hw _ (List.mem_of_getElem? (i := 2) rfl))) (mvT hZ (hw _ (List.mem_of_getElem? (i := 3) rfl))) (mvT hZ (hw _ (List.mem_of_getElem? (i := 4) rfl))) (by decide) (own_back (W := 0) (own_kind2 l Z a0 hw [] u0 u1 u2 h0 n0 O S_u0 S_u1 S_u2) hZ (hw _ (List.mem_of_getElem? (i := 4) rfl)) (hw _ (List.mem_of_getElem? (i := 3) rfl)) (by decide) (by decide)) (g := (mkF m 21 #[.val (.int p1), .val (.int p2), .val (.int (1 : Int32)), .val (.int (2 : Int32)), .val (.ref u1), .unset, .unset] [(.int (2 : Int32))])) rfl (by rw [hml]; rfl) (argsL := [(.int (2 : Int32))]) (rest := []) (lenOf own_pd1 rfl) rfl (by show 2 * 0 + _ ≤ _; exact Nat.le_of_eq rfl) (hb hby at_21) (fun _ _ => ⟨rfl, e35, (by decide : 0 + 0 ≤ _), (by decide : 0 + 0 ≤ _)⟩)
      dsimp only [Pt.U, Pt.locs, Pt.cells, Pt.slots] at X36 l36 y36 z36 st36 hQ36
      subst l36 y36 z36
      obtain ⟨rfl, N36q, e36⟩ := hQ36
      have N36 := Fr.app N35 N36q
      refine own_by st36 ?_
      show own_End p e below _ (T36.setTop (mkF m 24 #[.val (.int p1), .val (.int p2), .val (.int (1 : Int32)), .val (.int (2 : Int32)), .val (.ref u1), .unset, .unset] [(.ref u2)]))
      refine own_by (fun _ k => XS.astore X36.here hx rfl (hb hby at_24) rfl rfl (l' := #[.val (.int p1), .val (.int p2), .val (.int (1 : Int32)), .val (.int (2 : Int32)), .val (.ref u1), .val (.ref u2), .unset]) rfl k) ?_
      show own_End p e below _ (T36.setTop (mkF m 26 #[.val (.int p1), .val (.int p2), .val (.int (1 : Int32)), .val (.int (2 : Int32)), .val (.ref u1), .val (.ref u2), .unset] []))
      refine own_by (fun _ k => XS.aload X36.here hx rfl (hb hby at_26) rfl rfl k) ?_
      show own_End p e below _ (T36.setTop (mkF m 28 #[.val (.int p1), .val (.int p2), .val (.int (1 : Int32)), .val (.int (2 : Int32)), .val (.ref u1), .val (.ref u2), .unset] [(.ref u1)]))
      refine own_by (fun _ k => XS.aload X36.here hx rfl (hb hby at_28) rfl rfl k) ?_
      show own_End p e below _ (T36.setTop (mkF m 30 #[.val (.int p1), .val (.int p2), .val (.int (1 : Int32)), .val (.int (2 : Int32)), .val (.ref u1), .val (.ref u2), .unset] [(.ref u2), (.ref u1)]))
      obtain ⟨_, _, ⟨T37, L37, k37, n37⟩, -, X37, ⟨Lc37, hQ37, l37, y37, z37⟩, st37⟩ := Jvm.LawKit.callS X36 hx (y := (⟨"com/example/orderly_commit/orderlycommit/jdbc/StatementKind", "weightier", "(Lcom/example/orderly_commit/orderlycommit/jdbc/StatementKind;Lcom/example/orderly_commit/orderlycommit/jdbc/StatementKind;)Lcom/example/orderly_commit/orderlycommit/jdbc/StatementKind;"⟩ : MethodName)) hown (mvT hZ (hw _ (List.mem_of_getElem? (i := 8) rfl))) (mvT hZ (hw _ (List.mem_of_getElem? (i := 9) rfl))) (mvT hZ (hw _ (List.mem_of_getElem? (i := 6) rfl))) (mvT hZ (hw _ (List.mem_of_getElem? (i := 10) rfl))) (by decide) (own_back (W := 0) (own_wei l Z a0 hw [] u1 u2 u2 1 2 h0 n0 O E_u1 E_u2 F_u1 F_u2 hM (Or.inl ⟨by decide, rfl⟩)) hZ (hw _ (List.mem_of_getElem? (i := 10) rfl)) (hw _ (List.mem_of_getElem? (i := 6) rfl)) (by decide) (by decide)) (g := (mkF m 30 #[.val (.int p1), .val (.int p2), .val (.int (1 : Int32)), .val (.int (2 : Int32)), .val (.ref u1), .val (.ref u2), .unset] [(.ref u2), (.ref u1)])) rfl (by rw [hml]; rfl) (argsL := [(.ref u1), (.ref u2)]) (rest := []) (lenOf own_pd2 rfl) rfl (by show 2 * 0 + _ ≤ _; exact Nat.le_of_eq rfl) (hb hby at_30) (fun _ _ => ⟨rfl, e36, (by decide : 0 + 0 ≤ _), (by decide : 0 + 0 ≤ _)⟩)
      dsimp only [Pt.U, Pt.locs, Pt.cells, Pt.slots] at X37 l37 y37 z37 st37 hQ37
      subst l37 y37 z37
      obtain ⟨rfl, N37q, e37⟩ := hQ37
      have N37 := Fr.app N36 N37q
      refine own_by st37 ?_
      show own_End p e below _ (T37.setTop (mkF m 33 #[.val (.int p1), .val (.int p2), .val (.int (1 : Int32)), .val (.int (2 : Int32)), .val (.ref u1), .val (.ref u2), .unset] [(.ref u2)]))
      refine own_by (fun _ k => XS.astore X37.here hx rfl (hb hby at_33) rfl rfl (l' := #[.val (.int p1), .val (.int p2), .val (.int (1 : Int32)), .val (.int (2 : Int32)), .val (.ref u1), .val (.ref u2), .val (.ref u2)]) rfl k) ?_
      show own_End p e below _ (T37.setTop (mkF m 35 #[.val (.int p1), .val (.int p2), .val (.int (1 : Int32)), .val (.int (2 : Int32)), .val (.ref u1), .val (.ref u2), .val (.ref u2)] []))
      refine own_by (fun _ k => XS.aload X37.here hx rfl (hb hby at_35) rfl rfl k) ?_
      show own_End p e below _ (T37.setTop (mkF m 37 #[.val (.int p1), .val (.int p2), .val (.int (1 : Int32)), .val (.int (2 : Int32)), .val (.ref u1), .val (.ref u2), .val (.ref u2)] [(.ref u2)]))
      refine own_by (fun _ k => XS.iloadN X37.here hx rfl (hb hby at_37) rfl k) ?_
      show own_End p e below _ (T37.setTop (mkF m 38 #[.val (.int p1), .val (.int p2), .val (.int (1 : Int32)), .val (.int (2 : Int32)), .val (.ref u1), .val (.ref u2), .val (.ref u2)] [(.int (1 : Int32)), (.ref u2)]))
      refine own_by (fun _ k => XS.iloadN X37.here hx rfl (hb hby at_38) rfl k) ?_
      show own_End p e below _ (T37.setTop (mkF m 39 #[.val (.int p1), .val (.int p2), .val (.int (1 : Int32)), .val (.int (2 : Int32)), .val (.ref u1), .val (.ref u2), .val (.ref u2)] [(.int (2 : Int32)), (.int (1 : Int32)), (.ref u2)]))
      obtain ⟨_, _, ⟨T38, L38, k38, n38⟩, -, X38, ⟨Lc38, hQ38, l38, y38, z38⟩, st38⟩ := Jvm.LawKit.callS X37 hx (y := (⟨"java/lang/Math", "max", "(II)I"⟩ : MethodName)) hown (mvT hZ (hw _ (List.mem_of_getElem? (i := 26) rfl))) (mvT hZ (hw _ (List.mem_of_getElem? (i := 27) rfl))) (mvT hZ (hw _ (List.mem_of_getElem? (i := 28) rfl))) (mvT hZ (hw _ (List.mem_of_getElem? (i := 29) rfl))) (by decide) (own_back (W := 1) (own_max12 l Z a0 hw [] h0 n0) hZ (hw _ (List.mem_of_getElem? (i := 29) rfl)) (hw _ (List.mem_of_getElem? (i := 28) rfl)) (by decide) (by decide)) (g := (mkF m 39 #[.val (.int p1), .val (.int p2), .val (.int (1 : Int32)), .val (.int (2 : Int32)), .val (.ref u1), .val (.ref u2), .val (.ref u2)] [(.int (2 : Int32)), (.int (1 : Int32)), (.ref u2)])) rfl (by rw [hml]; rfl) (argsL := [(.int (1 : Int32)), (.int (2 : Int32))]) (rest := [(.ref u2)]) (lenOf own_pd3 rfl) rfl (by show 2 * 0 + _ ≤ _; exact Nat.le_of_eq rfl) (hb hby at_39) (fun _ _ => ⟨rfl, e37, (by decide : 0 + 0 ≤ _), (by decide : 0 + 0 ≤ _)⟩)
      dsimp only [Pt.U, Pt.locs, Pt.cells, Pt.slots] at X38 l38 y38 z38 st38 hQ38
      subst l38 y38 z38
      obtain ⟨rfl, N38q, e38⟩ := hQ38
      have N38 := Fr.app N37 N38q
      refine own_by st38 ?_
      show own_End p e below _ (T38.setTop (mkF m 42 #[.val (.int p1), .val (.int p2), .val (.int (1 : Int32)), .val (.int (2 : Int32)), .val (.ref u1), .val (.ref u2), .val (.ref u2)] [(.int (2 : Int32)), (.ref u2)]))
      obtain ⟨_, _, ⟨T39, L39, k39, n39⟩, -, X39, ⟨Lc39, hQ39, l39, y39, z39⟩, st39⟩ := Jvm.LawKit.callS X38 hx (y := (⟨"com/example/orderly_commit/orderlycommit/jdbc/StatementKindWeightierPinLaw", "kindOf", "(I)Lcom/example/orderly_commit/orderlycommit/jdbc/StatementKind;"⟩ : MethodName)) hown (mvT hZ (hw _ (List.mem_of_getElem? (i := 1) rfl))) (mvT hZ (hw _ (List.mem_of_getElem? (i := 2) rfl))) (mvT hZ (hw _ (List.mem_of_getElem? (i := 3) rfl))) (mvT hZ (hw _ (List.mem_of_getElem? (i := 4) rfl))) (by decide) (own_back (W := 1) (own_kind2 l Z a0 hw [] u0 u1 u2 h0 n0 O S_u0 S_u1 S_u2) hZ (hw _ (List.mem_of_getElem? (i := 4) rfl)) (hw _ (List.mem_of_getElem? (i := 3) rfl)) (by decide) (by decide)) (g := (mkF m 42 #[.val (.int p1), .val (.int p2), .val (.int (1 : Int32)), .val (.int (2 : Int32)), .val (.ref u1), .val (.ref u2), .val (.ref u2)] [(.int (2 : Int32)), (.ref u2)])) rfl (by rw [hml]; rfl) (argsL := [(.int (2 : Int32))]) (rest := [(.ref u2)]) (lenOf own_pd1 rfl) rfl (by show 2 * 0 + _ ≤ _; exact Nat.le_of_eq rfl) (hb hby at_42) (fun _ _ => ⟨rfl, e38, (by decide : 0 + 0 ≤ _), (by decide : 0 + 0 ≤ _)⟩)
      dsimp only [Pt.U, Pt.locs, Pt.cells, Pt.slots] at X39 l39 y39 z39 st39 hQ39
      subst l39 y39 z39
      obtain ⟨rfl, N39q, e39⟩ := hQ39
      have N39 := Fr.app N38 N39q
      refine own_by st39 ?_
      show own_End p e below _ (T39.setTop (mkF m 45 #[.val (.int p1), .val (.int p2), .val (.int (1 : Int32)), .val (.int (2 : Int32)), .val (.ref u1), .val (.ref u2), .val (.ref u2)] [(.ref u2), (.ref u2)]))
      refine own_by (fun _ k => Jvm.RoadKit.acmp (g := (mkF m 45 #[.val (.int p1), .val (.int p2), .val (.int (1 : Int32)), .val (.int (2 : Int32)), .val (.ref u1), .val (.ref u2), .val (.ref u2)] [(.ref u2), (.ref u2)])) X39 hx rfl rfl rfl (pc0 := 45) (pc' := 48) (same := true) rfl (hb hby at_45) rfl (decide_eq_true rfl) (by decide) (by decide) k) ?_
      show own_End p e below _ (T39.setTop (mkF m 48 #[.val (.int p1), .val (.int p2), .val (.int (1 : Int32)), .val (.int (2 : Int32)), .val (.ref u1), .val (.ref u2), .val (.ref u2)] []))
      refine own_by (fun _ k => XS.iconst X39.here hx rfl (hb hby at_48) k) ?_
      show own_End p e below _ (T39.setTop (mkF m 49 #[.val (.int p1), .val (.int p2), .val (.int (1 : Int32)), .val (.int (2 : Int32)), .val (.ref u1), .val (.ref u2), .val (.ref u2)] [(.int (1 : Int32))]))
      refine own_by (fun _ k => XS.goto X39.here hx rfl (pc0 := 49) (pc' := 53) rfl (hb hby at_49) (by decide) (by decide) k) ?_
      show own_End p e below _ (T39.setTop (mkF m 53 #[.val (.int p1), .val (.int p2), .val (.int (1 : Int32)), .val (.int (2 : Int32)), .val (.ref u1), .val (.ref u2), .val (.ref u2)] [(.int (1 : Int32))]))
      obtain ⟨fs, hr, hrun, hended, hW, hsame⟩ := X39.leave (v := (some (.int (1 : Int32)))) (fun h => by rw [Bd.returns] at h; cases h)
      refine ⟨_, _, retN X39 hx (t := .boolean) Bd.returns (by simp) (hb hby at_53) hr, hrun, hended, _, _, rfl, ?_, ⟨_, rfl⟩, hW, hsame.mono (by decide) (by decide)⟩
      exact ⟨rfl, N39⟩
  · -- ra = 2
    rcases own_three p2 with hq3 | hq3 | hq3
    · -- case 0
      rw [hq2, hq3]
      show own_End p e below _ (s₁.setTop (mkF m 14 #[.val (.int p1), .val (.int p2), .val (.int (2 : Int32)), .val (.int (0 : Int32)), .unset, .unset, .unset] []))
      refine own_by (fun _ k => XS.iloadN X0.here hx rfl (hb hby at_14) rfl k) ?_
      show own_End p e below _ (s₁.setTop (mkF m 15 #[.val (.int p1), .val (.int p2), .val (.int (2 : Int32)), .val (.int (0 : Int32)), .unset, .unset, .unset] [(.int (2 : Int32))]))
      obtain ⟨_, _, ⟨T40, L40, k40, n40⟩, -, X40, ⟨Lc40, hQ40, l40, y40, z40⟩, st40⟩ := Jvm.LawKit.callS X0 hx (y := (⟨"com/example/orderly_commit/orderlycommit/jdbc/StatementKindWeightierPinLaw", "kindOf", "(I)Lcom/example/orderly_commit/orderlycommit/jdbc/StatementKind;"⟩ : MethodName)) hown (mvT hZ (hw _ (List.mem_of_getElem? (i := 1) rfl))) (mvT hZ (hw _ (List.mem_of_getElem? (i := 2) rfl))) (mvT hZ (hw _ (List.mem_of_getElem? (i := 3) rfl))) (mvT hZ (hw _ (List.mem_of_getElem? (i := 4) rfl))) (by decide) (own_back (W := 0) (own_kind2 l Z a0 hw [] u0 u1 u2 h0 n0 O S_u0 S_u1 S_u2) hZ (hw _ (List.mem_of_getElem? (i := 4) rfl)) (hw _ (List.mem_of_getElem? (i := 3) rfl)) (by decide) (by decide)) (g := (mkF m 15 #[.val (.int p1), .val (.int p2), .val (.int (2 : Int32)), .val (.int (0 : Int32)), .unset, .unset, .unset] [(.int (2 : Int32))])) rfl (by rw [hml]; rfl) (argsL := [(.int (2 : Int32))]) (rest := []) (lenOf own_pd1 rfl) rfl (by show 2 * 0 + _ ≤ _; exact Nat.le_of_eq rfl) (hb hby at_15) (fun _ _ => ⟨rfl, e0, (by decide : 0 + 0 ≤ _), (by decide : 0 + 0 ≤ _)⟩)
      dsimp only [Pt.U, Pt.locs, Pt.cells, Pt.slots] at X40 l40 y40 z40 st40 hQ40
      subst l40 y40 z40
      obtain ⟨rfl, N40q, e40⟩ := hQ40
      have N40 := Fr.app N0 N40q
      refine own_by st40 ?_
      show own_End p e below _ (T40.setTop (mkF m 18 #[.val (.int p1), .val (.int p2), .val (.int (2 : Int32)), .val (.int (0 : Int32)), .unset, .unset, .unset] [(.ref u2)]))
      refine own_by (fun _ k => XS.astore X40.here hx rfl (hb hby at_18) rfl rfl (l' := #[.val (.int p1), .val (.int p2), .val (.int (2 : Int32)), .val (.int (0 : Int32)), .val (.ref u2), .unset, .unset]) rfl k) ?_
      show own_End p e below _ (T40.setTop (mkF m 20 #[.val (.int p1), .val (.int p2), .val (.int (2 : Int32)), .val (.int (0 : Int32)), .val (.ref u2), .unset, .unset] []))
      refine own_by (fun _ k => XS.iloadN X40.here hx rfl (hb hby at_20) rfl k) ?_
      show own_End p e below _ (T40.setTop (mkF m 21 #[.val (.int p1), .val (.int p2), .val (.int (2 : Int32)), .val (.int (0 : Int32)), .val (.ref u2), .unset, .unset] [(.int (0 : Int32))]))
      obtain ⟨_, _, ⟨T41, L41, k41, n41⟩, -, X41, ⟨Lc41, hQ41, l41, y41, z41⟩, st41⟩ := Jvm.LawKit.callS X40 hx (y := (⟨"com/example/orderly_commit/orderlycommit/jdbc/StatementKindWeightierPinLaw", "kindOf", "(I)Lcom/example/orderly_commit/orderlycommit/jdbc/StatementKind;"⟩ : MethodName)) hown (mvT hZ (hw _ (List.mem_of_getElem? (i := 1) rfl))) (mvT hZ (hw _ (List.mem_of_getElem? (i := 2) rfl))) (mvT hZ (hw _ (List.mem_of_getElem? (i := 3) rfl))) (mvT hZ (hw _ (List.mem_of_getElem? (i := 4) rfl))) (by decide) (own_back (W := 0) (own_kind0 l Z a0 hw [] u0 u1 u2 h0 n0 O S_u0 S_u1 S_u2) hZ (hw _ (List.mem_of_getElem? (i := 4) rfl)) (hw _ (List.mem_of_getElem? (i := 3) rfl)) (by decide) (by decide)) (g := (mkF m 21 #[.val (.int p1), .val (.int p2), .val (.int (2 : Int32)), .val (.int (0 : Int32)), .val (.ref u2), .unset, .unset] [(.int (0 : Int32))])) rfl (by rw [hml]; rfl) (argsL := [(.int (0 : Int32))]) (rest := []) (lenOf own_pd1 rfl) rfl (by show 2 * 0 + _ ≤ _; exact Nat.le_of_eq rfl) (hb hby at_21) (fun _ _ => ⟨rfl, e40, (by decide : 0 + 0 ≤ _), (by decide : 0 + 0 ≤ _)⟩)
      dsimp only [Pt.U, Pt.locs, Pt.cells, Pt.slots] at X41 l41 y41 z41 st41 hQ41
      subst l41 y41 z41
      obtain ⟨rfl, N41q, e41⟩ := hQ41
      have N41 := Fr.app N40 N41q
      refine own_by st41 ?_
      show own_End p e below _ (T41.setTop (mkF m 24 #[.val (.int p1), .val (.int p2), .val (.int (2 : Int32)), .val (.int (0 : Int32)), .val (.ref u2), .unset, .unset] [(.ref u0)]))
      refine own_by (fun _ k => XS.astore X41.here hx rfl (hb hby at_24) rfl rfl (l' := #[.val (.int p1), .val (.int p2), .val (.int (2 : Int32)), .val (.int (0 : Int32)), .val (.ref u2), .val (.ref u0), .unset]) rfl k) ?_
      show own_End p e below _ (T41.setTop (mkF m 26 #[.val (.int p1), .val (.int p2), .val (.int (2 : Int32)), .val (.int (0 : Int32)), .val (.ref u2), .val (.ref u0), .unset] []))
      refine own_by (fun _ k => XS.aload X41.here hx rfl (hb hby at_26) rfl rfl k) ?_
      show own_End p e below _ (T41.setTop (mkF m 28 #[.val (.int p1), .val (.int p2), .val (.int (2 : Int32)), .val (.int (0 : Int32)), .val (.ref u2), .val (.ref u0), .unset] [(.ref u2)]))
      refine own_by (fun _ k => XS.aload X41.here hx rfl (hb hby at_28) rfl rfl k) ?_
      show own_End p e below _ (T41.setTop (mkF m 30 #[.val (.int p1), .val (.int p2), .val (.int (2 : Int32)), .val (.int (0 : Int32)), .val (.ref u2), .val (.ref u0), .unset] [(.ref u0), (.ref u2)]))
      obtain ⟨_, _, ⟨T42, L42, k42, n42⟩, -, X42, ⟨Lc42, hQ42, l42, y42, z42⟩, st42⟩ := Jvm.LawKit.callS X41 hx (y := (⟨"com/example/orderly_commit/orderlycommit/jdbc/StatementKind", "weightier", "(Lcom/example/orderly_commit/orderlycommit/jdbc/StatementKind;Lcom/example/orderly_commit/orderlycommit/jdbc/StatementKind;)Lcom/example/orderly_commit/orderlycommit/jdbc/StatementKind;"⟩ : MethodName)) hown (mvT hZ (hw _ (List.mem_of_getElem? (i := 8) rfl))) (mvT hZ (hw _ (List.mem_of_getElem? (i := 9) rfl))) (mvT hZ (hw _ (List.mem_of_getElem? (i := 6) rfl))) (mvT hZ (hw _ (List.mem_of_getElem? (i := 10) rfl))) (by decide) (own_back (W := 0) (own_wei l Z a0 hw [] u2 u0 u2 2 0 h0 n0 O E_u2 E_u0 F_u2 F_u0 hM (Or.inr ⟨by decide, rfl⟩)) hZ (hw _ (List.mem_of_getElem? (i := 10) rfl)) (hw _ (List.mem_of_getElem? (i := 6) rfl)) (by decide) (by decide)) (g := (mkF m 30 #[.val (.int p1), .val (.int p2), .val (.int (2 : Int32)), .val (.int (0 : Int32)), .val (.ref u2), .val (.ref u0), .unset] [(.ref u0), (.ref u2)])) rfl (by rw [hml]; rfl) (argsL := [(.ref u2), (.ref u0)]) (rest := []) (lenOf own_pd2 rfl) rfl (by show 2 * 0 + _ ≤ _; exact Nat.le_of_eq rfl) (hb hby at_30) (fun _ _ => ⟨rfl, e41, (by decide : 0 + 0 ≤ _), (by decide : 0 + 0 ≤ _)⟩)
      dsimp only [Pt.U, Pt.locs, Pt.cells, Pt.slots] at X42 l42 y42 z42 st42 hQ42
      subst l42 y42 z42
      obtain ⟨rfl, N42q, e42⟩ := hQ42
      have N42 := Fr.app N41 N42q
      refine own_by st42 ?_
      show own_End p e below _ (T42.setTop (mkF m 33 #[.val (.int p1), .val (.int p2), .val (.int (2 : Int32)), .val (.int (0 : Int32)), .val (.ref u2), .val (.ref u0), .unset] [(.ref u2)]))
      refine own_by (fun _ k => XS.astore X42.here hx rfl (hb hby at_33) rfl rfl (l' := #[.val (.int p1), .val (.int p2), .val (.int (2 : Int32)), .val (.int (0 : Int32)), .val (.ref u2), .val (.ref u0), .val (.ref u2)]) rfl k) ?_
      show own_End p e below _ (T42.setTop (mkF m 35 #[.val (.int p1), .val (.int p2), .val (.int (2 : Int32)), .val (.int (0 : Int32)), .val (.ref u2), .val (.ref u0), .val (.ref u2)] []))
      refine own_by (fun _ k => XS.aload X42.here hx rfl (hb hby at_35) rfl rfl k) ?_
      show own_End p e below _ (T42.setTop (mkF m 37 #[.val (.int p1), .val (.int p2), .val (.int (2 : Int32)), .val (.int (0 : Int32)), .val (.ref u2), .val (.ref u0), .val (.ref u2)] [(.ref u2)]))
      refine own_by (fun _ k => XS.iloadN X42.here hx rfl (hb hby at_37) rfl k) ?_
      show own_End p e below _ (T42.setTop (mkF m 38 #[.val (.int p1), .val (.int p2), .val (.int (2 : Int32)), .val (.int (0 : Int32)), .val (.ref u2), .val (.ref u0), .val (.ref u2)] [(.int (2 : Int32)), (.ref u2)]))
      refine own_by (fun _ k => XS.iloadN X42.here hx rfl (hb hby at_38) rfl k) ?_
      show own_End p e below _ (T42.setTop (mkF m 39 #[.val (.int p1), .val (.int p2), .val (.int (2 : Int32)), .val (.int (0 : Int32)), .val (.ref u2), .val (.ref u0), .val (.ref u2)] [(.int (0 : Int32)), (.int (2 : Int32)), (.ref u2)]))
      obtain ⟨_, _, ⟨T43, L43, k43, n43⟩, -, X43, ⟨Lc43, hQ43, l43, y43, z43⟩, st43⟩ := Jvm.LawKit.callS X42 hx (y := (⟨"java/lang/Math", "max", "(II)I"⟩ : MethodName)) hown (mvT hZ (hw _ (List.mem_of_getElem? (i := 26) rfl))) (mvT hZ (hw _ (List.mem_of_getElem? (i := 27) rfl))) (mvT hZ (hw _ (List.mem_of_getElem? (i := 28) rfl))) (mvT hZ (hw _ (List.mem_of_getElem? (i := 29) rfl))) (by decide) (own_back (W := 1) (own_max20 l Z a0 hw [] h0 n0) hZ (hw _ (List.mem_of_getElem? (i := 29) rfl)) (hw _ (List.mem_of_getElem? (i := 28) rfl)) (by decide) (by decide)) (g := (mkF m 39 #[.val (.int p1), .val (.int p2), .val (.int (2 : Int32)), .val (.int (0 : Int32)), .val (.ref u2), .val (.ref u0), .val (.ref u2)] [(.int (0 : Int32)), (.int (2 : Int32)), (.ref u2)])) rfl (by rw [hml]; rfl) (argsL := [(.int (2 : Int32)), (.int (0 : Int32))]) (rest := [(.ref u2)]) (lenOf own_pd3 rfl) rfl (by show 2 * 0 + _ ≤ _; exact Nat.le_of_eq rfl) (hb hby at_39) (fun _ _ => ⟨rfl, e42, (by decide : 0 + 0 ≤ _), (by decide : 0 + 0 ≤ _)⟩)
      dsimp only [Pt.U, Pt.locs, Pt.cells, Pt.slots] at X43 l43 y43 z43 st43 hQ43
      subst l43 y43 z43
      obtain ⟨rfl, N43q, e43⟩ := hQ43
      have N43 := Fr.app N42 N43q
      refine own_by st43 ?_
      show own_End p e below _ (T43.setTop (mkF m 42 #[.val (.int p1), .val (.int p2), .val (.int (2 : Int32)), .val (.int (0 : Int32)), .val (.ref u2), .val (.ref u0), .val (.ref u2)] [(.int (2 : Int32)), (.ref u2)]))
      obtain ⟨_, _, ⟨T44, L44, k44, n44⟩, -, X44, ⟨Lc44, hQ44, l44, y44, z44⟩, st44⟩ := Jvm.LawKit.callS X43 hx (y := (⟨"com/example/orderly_commit/orderlycommit/jdbc/StatementKindWeightierPinLaw", "kindOf", "(I)Lcom/example/orderly_commit/orderlycommit/jdbc/StatementKind;"⟩ : MethodName)) hown (mvT hZ (hw _ (List.mem_of_getElem? (i := 1) rfl))) (mvT hZ (hw _ (List.mem_of_getElem? (i := 2) rfl))) (mvT hZ (hw _ (List.mem_of_getElem? (i := 3) rfl))) (mvT hZ (hw _ (List.mem_of_getElem? (i := 4) rfl))) (by decide) (own_back (W := 1) (own_kind2 l Z a0 hw [] u0 u1 u2 h0 n0 O S_u0 S_u1 S_u2) hZ (hw _ (List.mem_of_getElem? (i := 4) rfl)) (hw _ (List.mem_of_getElem? (i := 3) rfl)) (by decide) (by decide)) (g := (mkF m 42 #[.val (.int p1), .val (.int p2), .val (.int (2 : Int32)), .val (.int (0 : Int32)), .val (.ref u2), .val (.ref u0), .val (.ref u2)] [(.int (2 : Int32)), (.ref u2)])) rfl (by rw [hml]; rfl) (argsL := [(.int (2 : Int32))]) (rest := [(.ref u2)]) (lenOf own_pd1 rfl) rfl (by show 2 * 0 + _ ≤ _; exact Nat.le_of_eq rfl) (hb hby at_42) (fun _ _ => ⟨rfl, e43, (by decide : 0 + 0 ≤ _), (by decide : 0 + 0 ≤ _)⟩)
      dsimp only [Pt.U, Pt.locs, Pt.cells, Pt.slots] at X44 l44 y44 z44 st44 hQ44
      subst l44 y44 z44
      obtain ⟨rfl, N44q, e44⟩ := hQ44
      have N44 := Fr.app N43 N44q
      refine own_by st44 ?_
      show own_End p e below _ (T44.setTop (mkF m 45 #[.val (.int p1), .val (.int p2), .val (.int (2 : Int32)), .val (.int (0 : Int32)), .val (.ref u2), .val (.ref u0), .val (.ref u2)] [(.ref u2), (.ref u2)]))
      refine own_by (fun _ k => Jvm.RoadKit.acmp (g := (mkF m 45 #[.val (.int p1), .val (.int p2), .val (.int (2 : Int32)), .val (.int (0 : Int32)), .val (.ref u2), .val (.ref u0), .val (.ref u2)] [(.ref u2), (.ref u2)])) X44 hx rfl rfl rfl (pc0 := 45) (pc' := 48) (same := true) rfl (hb hby at_45) rfl (decide_eq_true rfl) (by decide) (by decide) k) ?_
      show own_End p e below _ (T44.setTop (mkF m 48 #[.val (.int p1), .val (.int p2), .val (.int (2 : Int32)), .val (.int (0 : Int32)), .val (.ref u2), .val (.ref u0), .val (.ref u2)] []))
      refine own_by (fun _ k => XS.iconst X44.here hx rfl (hb hby at_48) k) ?_
      show own_End p e below _ (T44.setTop (mkF m 49 #[.val (.int p1), .val (.int p2), .val (.int (2 : Int32)), .val (.int (0 : Int32)), .val (.ref u2), .val (.ref u0), .val (.ref u2)] [(.int (1 : Int32))]))
      refine own_by (fun _ k => XS.goto X44.here hx rfl (pc0 := 49) (pc' := 53) rfl (hb hby at_49) (by decide) (by decide) k) ?_
      show own_End p e below _ (T44.setTop (mkF m 53 #[.val (.int p1), .val (.int p2), .val (.int (2 : Int32)), .val (.int (0 : Int32)), .val (.ref u2), .val (.ref u0), .val (.ref u2)] [(.int (1 : Int32))]))
      obtain ⟨fs, hr, hrun, hended, hW, hsame⟩ := X44.leave (v := (some (.int (1 : Int32)))) (fun h => by rw [Bd.returns] at h; cases h)
      refine ⟨_, _, retN X44 hx (t := .boolean) Bd.returns (by simp) (hb hby at_53) hr, hrun, hended, _, _, rfl, ?_, ⟨_, rfl⟩, hW, hsame.mono (by decide) (by decide)⟩
      exact ⟨rfl, N44⟩
    · -- case 1
      rw [hq2, hq3]
      show own_End p e below _ (s₁.setTop (mkF m 14 #[.val (.int p1), .val (.int p2), .val (.int (2 : Int32)), .val (.int (1 : Int32)), .unset, .unset, .unset] []))
      refine own_by (fun _ k => XS.iloadN X0.here hx rfl (hb hby at_14) rfl k) ?_
      show own_End p e below _ (s₁.setTop (mkF m 15 #[.val (.int p1), .val (.int p2), .val (.int (2 : Int32)), .val (.int (1 : Int32)), .unset, .unset, .unset] [(.int (2 : Int32))]))
      obtain ⟨_, _, ⟨T45, L45, k45, n45⟩, -, X45, ⟨Lc45, hQ45, l45, y45, z45⟩, st45⟩ := Jvm.LawKit.callS X0 hx (y := (⟨"com/example/orderly_commit/orderlycommit/jdbc/StatementKindWeightierPinLaw", "kindOf", "(I)Lcom/example/orderly_commit/orderlycommit/jdbc/StatementKind;"⟩ : MethodName)) hown (mvT hZ (hw _ (List.mem_of_getElem? (i := 1) rfl))) (mvT hZ (hw _ (List.mem_of_getElem? (i := 2) rfl))) (mvT hZ (hw _ (List.mem_of_getElem? (i := 3) rfl))) (mvT hZ (hw _ (List.mem_of_getElem? (i := 4) rfl))) (by decide) (own_back (W := 0) (own_kind2 l Z a0 hw [] u0 u1 u2 h0 n0 O S_u0 S_u1 S_u2) hZ (hw _ (List.mem_of_getElem? (i := 4) rfl)) (hw _ (List.mem_of_getElem? (i := 3) rfl)) (by decide) (by decide)) (g := (mkF m 15 #[.val (.int p1), .val (.int p2), .val (.int (2 : Int32)), .val (.int (1 : Int32)), .unset, .unset, .unset] [(.int (2 : Int32))])) rfl (by rw [hml]; rfl) (argsL := [(.int (2 : Int32))]) (rest := []) (lenOf own_pd1 rfl) rfl (by show 2 * 0 + _ ≤ _; exact Nat.le_of_eq rfl) (hb hby at_15) (fun _ _ => ⟨rfl, e0, (by decide : 0 + 0 ≤ _), (by decide : 0 + 0 ≤ _)⟩)
      dsimp only [Pt.U, Pt.locs, Pt.cells, Pt.slots] at X45 l45 y45 z45 st45 hQ45
      subst l45 y45 z45
      obtain ⟨rfl, N45q, e45⟩ := hQ45
      have N45 := Fr.app N0 N45q
      refine own_by st45 ?_
      show own_End p e below _ (T45.setTop (mkF m 18 #[.val (.int p1), .val (.int p2), .val (.int (2 : Int32)), .val (.int (1 : Int32)), .unset, .unset, .unset] [(.ref u2)]))
      refine own_by (fun _ k => XS.astore X45.here hx rfl (hb hby at_18) rfl rfl (l' := #[.val (.int p1), .val (.int p2), .val (.int (2 : Int32)), .val (.int (1 : Int32)), .val (.ref u2), .unset, .unset]) rfl k) ?_
      show own_End p e below _ (T45.setTop (mkF m 20 #[.val (.int p1), .val (.int p2), .val (.int (2 : Int32)), .val (.int (1 : Int32)), .val (.ref u2), .unset, .unset] []))
      refine own_by (fun _ k => XS.iloadN X45.here hx rfl (hb hby at_20) rfl k) ?_
      show own_End p e below _ (T45.setTop (mkF m 21 #[.val (.int p1), .val (.int p2), .val (.int (2 : Int32)), .val (.int (1 : Int32)), .val (.ref u2), .unset, .unset] [(.int (1 : Int32))]))
      obtain ⟨_, _, ⟨T46, L46, k46, n46⟩, -, X46, ⟨Lc46, hQ46, l46, y46, z46⟩, st46⟩ := Jvm.LawKit.callS X45 hx (y := (⟨"com/example/orderly_commit/orderlycommit/jdbc/StatementKindWeightierPinLaw", "kindOf", "(I)Lcom/example/orderly_commit/orderlycommit/jdbc/StatementKind;"⟩ : MethodName)) hown (mvT hZ (hw _ (List.mem_of_getElem? (i := 1) rfl))) (mvT hZ (hw _ (List.mem_of_getElem? (i := 2) rfl))) (mvT hZ (hw _ (List.mem_of_getElem? (i := 3) rfl))) (mvT hZ (hw _ (List.mem_of_getElem? (i := 4) rfl))) (by decide) (own_back (W := 0) (own_kind1 l Z a0 hw [] u0 u1 u2 h0 n0 O S_u0 S_u1 S_u2) hZ (hw _ (List.mem_of_getElem? (i := 4) rfl)) (hw _ (List.mem_of_getElem? (i := 3) rfl)) (by decide) (by decide)) (g := (mkF m 21 #[.val (.int p1), .val (.int p2), .val (.int (2 : Int32)), .val (.int (1 : Int32)), .val (.ref u2), .unset, .unset] [(.int (1 : Int32))])) rfl (by rw [hml]; rfl) (argsL := [(.int (1 : Int32))]) (rest := []) (lenOf own_pd1 rfl) rfl (by show 2 * 0 + _ ≤ _; exact Nat.le_of_eq rfl) (hb hby at_21) (fun _ _ => ⟨rfl, e45, (by decide : 0 + 0 ≤ _), (by decide : 0 + 0 ≤ _)⟩)
      dsimp only [Pt.U, Pt.locs, Pt.cells, Pt.slots] at X46 l46 y46 z46 st46 hQ46
      subst l46 y46 z46
      obtain ⟨rfl, N46q, e46⟩ := hQ46
      have N46 := Fr.app N45 N46q
      refine own_by st46 ?_
      show own_End p e below _ (T46.setTop (mkF m 24 #[.val (.int p1), .val (.int p2), .val (.int (2 : Int32)), .val (.int (1 : Int32)), .val (.ref u2), .unset, .unset] [(.ref u1)]))
      refine own_by (fun _ k => XS.astore X46.here hx rfl (hb hby at_24) rfl rfl (l' := #[.val (.int p1), .val (.int p2), .val (.int (2 : Int32)), .val (.int (1 : Int32)), .val (.ref u2), .val (.ref u1), .unset]) rfl k) ?_
      show own_End p e below _ (T46.setTop (mkF m 26 #[.val (.int p1), .val (.int p2), .val (.int (2 : Int32)), .val (.int (1 : Int32)), .val (.ref u2), .val (.ref u1), .unset] []))
      refine own_by (fun _ k => XS.aload X46.here hx rfl (hb hby at_26) rfl rfl k) ?_
      show own_End p e below _ (T46.setTop (mkF m 28 #[.val (.int p1), .val (.int p2), .val (.int (2 : Int32)), .val (.int (1 : Int32)), .val (.ref u2), .val (.ref u1), .unset] [(.ref u2)]))
      refine own_by (fun _ k => XS.aload X46.here hx rfl (hb hby at_28) rfl rfl k) ?_
      show own_End p e below _ (T46.setTop (mkF m 30 #[.val (.int p1), .val (.int p2), .val (.int (2 : Int32)), .val (.int (1 : Int32)), .val (.ref u2), .val (.ref u1), .unset] [(.ref u1), (.ref u2)]))
      obtain ⟨_, _, ⟨T47, L47, k47, n47⟩, -, X47, ⟨Lc47, hQ47, l47, y47, z47⟩, st47⟩ := Jvm.LawKit.callS X46 hx (y := (⟨"com/example/orderly_commit/orderlycommit/jdbc/StatementKind", "weightier", "(Lcom/example/orderly_commit/orderlycommit/jdbc/StatementKind;Lcom/example/orderly_commit/orderlycommit/jdbc/StatementKind;)Lcom/example/orderly_commit/orderlycommit/jdbc/StatementKind;"⟩ : MethodName)) hown (mvT hZ (hw _ (List.mem_of_getElem? (i := 8) rfl))) (mvT hZ (hw _ (List.mem_of_getElem? (i := 9) rfl))) (mvT hZ (hw _ (List.mem_of_getElem? (i := 6) rfl))) (mvT hZ (hw _ (List.mem_of_getElem? (i := 10) rfl))) (by decide) (own_back (W := 0) (own_wei l Z a0 hw [] u2 u1 u2 2 1 h0 n0 O E_u2 E_u1 F_u2 F_u1 hM (Or.inr ⟨by decide, rfl⟩)) hZ (hw _ (List.mem_of_getElem? (i := 10) rfl)) (hw _ (List.mem_of_getElem? (i := 6) rfl)) (by decide) (by decide)) (g := (mkF m 30 #[.val (.int p1), .val (.int p2), .val (.int (2 : Int32)), .val (.int (1 : Int32)), .val (.ref u2), .val (.ref u1), .unset] [(.ref u1), (.ref u2)])) rfl (by rw [hml]; rfl) (argsL := [(.ref u2), (.ref u1)]) (rest := []) (lenOf own_pd2 rfl) rfl (by show 2 * 0 + _ ≤ _; exact Nat.le_of_eq rfl) (hb hby at_30) (fun _ _ => ⟨rfl, e46, (by decide : 0 + 0 ≤ _), (by decide : 0 + 0 ≤ _)⟩)
      dsimp only [Pt.U, Pt.locs, Pt.cells, Pt.slots] at X47 l47 y47 z47 st47 hQ47
      subst l47 y47 z47
      obtain ⟨rfl, N47q, e47⟩ := hQ47
      have N47 := Fr.app N46 N47q
      refine own_by st47 ?_
      show own_End p e below _ (T47.setTop (mkF m 33 #[.val (.int p1), .val (.int p2), .val (.int (2 : Int32)), .val (.int (1 : Int32)), .val (.ref u2), .val (.ref u1), .unset] [(.ref u2)]))
      refine own_by (fun _ k => XS.astore X47.here hx rfl (hb hby at_33) rfl rfl (l' := #[.val (.int p1), .val (.int p2), .val (.int (2 : Int32)), .val (.int (1 : Int32)), .val (.ref u2), .val (.ref u1), .val (.ref u2)]) rfl k) ?_
      show own_End p e below _ (T47.setTop (mkF m 35 #[.val (.int p1), .val (.int p2), .val (.int (2 : Int32)), .val (.int (1 : Int32)), .val (.ref u2), .val (.ref u1), .val (.ref u2)] []))
      refine own_by (fun _ k => XS.aload X47.here hx rfl (hb hby at_35) rfl rfl k) ?_
      show own_End p e below _ (T47.setTop (mkF m 37 #[.val (.int p1), .val (.int p2), .val (.int (2 : Int32)), .val (.int (1 : Int32)), .val (.ref u2), .val (.ref u1), .val (.ref u2)] [(.ref u2)]))
      refine own_by (fun _ k => XS.iloadN X47.here hx rfl (hb hby at_37) rfl k) ?_
      show own_End p e below _ (T47.setTop (mkF m 38 #[.val (.int p1), .val (.int p2), .val (.int (2 : Int32)), .val (.int (1 : Int32)), .val (.ref u2), .val (.ref u1), .val (.ref u2)] [(.int (2 : Int32)), (.ref u2)]))
      refine own_by (fun _ k => XS.iloadN X47.here hx rfl (hb hby at_38) rfl k) ?_
      show own_End p e below _ (T47.setTop (mkF m 39 #[.val (.int p1), .val (.int p2), .val (.int (2 : Int32)), .val (.int (1 : Int32)), .val (.ref u2), .val (.ref u1), .val (.ref u2)] [(.int (1 : Int32)), (.int (2 : Int32)), (.ref u2)]))
      obtain ⟨_, _, ⟨T48, L48, k48, n48⟩, -, X48, ⟨Lc48, hQ48, l48, y48, z48⟩, st48⟩ := Jvm.LawKit.callS X47 hx (y := (⟨"java/lang/Math", "max", "(II)I"⟩ : MethodName)) hown (mvT hZ (hw _ (List.mem_of_getElem? (i := 26) rfl))) (mvT hZ (hw _ (List.mem_of_getElem? (i := 27) rfl))) (mvT hZ (hw _ (List.mem_of_getElem? (i := 28) rfl))) (mvT hZ (hw _ (List.mem_of_getElem? (i := 29) rfl))) (by decide) (own_back (W := 1) (own_max21 l Z a0 hw [] h0 n0) hZ (hw _ (List.mem_of_getElem? (i := 29) rfl)) (hw _ (List.mem_of_getElem? (i := 28) rfl)) (by decide) (by decide)) (g := (mkF m 39 #[.val (.int p1), .val (.int p2), .val (.int (2 : Int32)), .val (.int (1 : Int32)), .val (.ref u2), .val (.ref u1), .val (.ref u2)] [(.int (1 : Int32)), (.int (2 : Int32)), (.ref u2)])) rfl (by rw [hml]; rfl) (argsL := [(.int (2 : Int32)), (.int (1 : Int32))]) (rest := [(.ref u2)]) (lenOf own_pd3 rfl) rfl (by show 2 * 0 + _ ≤ _; exact Nat.le_of_eq rfl) (hb hby at_39) (fun _ _ => ⟨rfl, e47, (by decide : 0 + 0 ≤ _), (by decide : 0 + 0 ≤ _)⟩)
      dsimp only [Pt.U, Pt.locs, Pt.cells, Pt.slots] at X48 l48 y48 z48 st48 hQ48
      subst l48 y48 z48
      obtain ⟨rfl, N48q, e48⟩ := hQ48
      have N48 := Fr.app N47 N48q
      refine own_by st48 ?_
      show own_End p e below _ (T48.setTop (mkF m 42 #[.val (.int p1), .val (.int p2), .val (.int (2 : Int32)), .val (.int (1 : Int32)), .val (.ref u2), .val (.ref u1), .val (.ref u2)] [(.int (2 : Int32)), (.ref u2)]))
      obtain ⟨_, _, ⟨T49, L49, k49, n49⟩, -, X49, ⟨Lc49, hQ49, l49, y49, z49⟩, st49⟩ := Jvm.LawKit.callS X48 hx (y := (⟨"com/example/orderly_commit/orderlycommit/jdbc/StatementKindWeightierPinLaw", "kindOf", "(I)Lcom/example/orderly_commit/orderlycommit/jdbc/StatementKind;"⟩ : MethodName)) hown (mvT hZ (hw _ (List.mem_of_getElem? (i := 1) rfl))) (mvT hZ (hw _ (List.mem_of_getElem? (i := 2) rfl))) (mvT hZ (hw _ (List.mem_of_getElem? (i := 3) rfl))) (mvT hZ (hw _ (List.mem_of_getElem? (i := 4) rfl))) (by decide) (own_back (W := 1) (own_kind2 l Z a0 hw [] u0 u1 u2 h0 n0 O S_u0 S_u1 S_u2) hZ (hw _ (List.mem_of_getElem? (i := 4) rfl)) (hw _ (List.mem_of_getElem? (i := 3) rfl)) (by decide) (by decide)) (g := (mkF m 42 #[.val (.int p1), .val (.int p2), .val (.int (2 : Int32)), .val (.int (1 : Int32)), .val (.ref u2), .val (.ref u1), .val (.ref u2)] [(.int (2 : Int32)), (.ref u2)])) rfl (by rw [hml]; rfl) (argsL := [(.int (2 : Int32))]) (rest := [(.ref u2)]) (lenOf own_pd1 rfl) rfl (by show 2 * 0 + _ ≤ _; exact Nat.le_of_eq rfl) (hb hby at_42) (fun _ _ => ⟨rfl, e48, (by decide : 0 + 0 ≤ _), (by decide : 0 + 0 ≤ _)⟩)
      dsimp only [Pt.U, Pt.locs, Pt.cells, Pt.slots] at X49 l49 y49 z49 st49 hQ49
      subst l49 y49 z49
      obtain ⟨rfl, N49q, e49⟩ := hQ49
      have N49 := Fr.app N48 N49q
      refine own_by st49 ?_
      show own_End p e below _ (T49.setTop (mkF m 45 #[.val (.int p1), .val (.int p2), .val (.int (2 : Int32)), .val (.int (1 : Int32)), .val (.ref u2), .val (.ref u1), .val (.ref u2)] [(.ref u2), (.ref u2)]))
      refine own_by (fun _ k => Jvm.RoadKit.acmp (g := (mkF m 45 #[.val (.int p1), .val (.int p2), .val (.int (2 : Int32)), .val (.int (1 : Int32)), .val (.ref u2), .val (.ref u1), .val (.ref u2)] [(.ref u2), (.ref u2)])) X49 hx rfl rfl rfl (pc0 := 45) (pc' := 48) (same := true) rfl (hb hby at_45) rfl (decide_eq_true rfl) (by decide) (by decide) k) ?_
      show own_End p e below _ (T49.setTop (mkF m 48 #[.val (.int p1), .val (.int p2), .val (.int (2 : Int32)), .val (.int (1 : Int32)), .val (.ref u2), .val (.ref u1), .val (.ref u2)] []))
      refine own_by (fun _ k => XS.iconst X49.here hx rfl (hb hby at_48) k) ?_
      show own_End p e below _ (T49.setTop (mkF m 49 #[.val (.int p1), .val (.int p2), .val (.int (2 : Int32)), .val (.int (1 : Int32)), .val (.ref u2), .val (.ref u1), .val (.ref u2)] [(.int (1 : Int32))]))
      refine own_by (fun _ k => XS.goto X49.here hx rfl (pc0 := 49) (pc' := 53) rfl (hb hby at_49) (by decide) (by decide) k) ?_
      show own_End p e below _ (T49.setTop (mkF m 53 #[.val (.int p1), .val (.int p2), .val (.int (2 : Int32)), .val (.int (1 : Int32)), .val (.ref u2), .val (.ref u1), .val (.ref u2)] [(.int (1 : Int32))]))
      obtain ⟨fs, hr, hrun, hended, hW, hsame⟩ := X49.leave (v := (some (.int (1 : Int32)))) (fun h => by rw [Bd.returns] at h; cases h)
      refine ⟨_, _, retN X49 hx (t := .boolean) Bd.returns (by simp) (hb hby at_53) hr, hrun, hended, _, _, rfl, ?_, ⟨_, rfl⟩, hW, hsame.mono (by decide) (by decide)⟩
      exact ⟨rfl, N49⟩
    · -- case 2
      rw [hq2, hq3]
      show own_End p e below _ (s₁.setTop (mkF m 14 #[.val (.int p1), .val (.int p2), .val (.int (2 : Int32)), .val (.int (2 : Int32)), .unset, .unset, .unset] []))
      refine own_by (fun _ k => XS.iloadN X0.here hx rfl (hb hby at_14) rfl k) ?_
      show own_End p e below _ (s₁.setTop (mkF m 15 #[.val (.int p1), .val (.int p2), .val (.int (2 : Int32)), .val (.int (2 : Int32)), .unset, .unset, .unset] [(.int (2 : Int32))]))
      obtain ⟨_, _, ⟨T50, L50, k50, n50⟩, -, X50, ⟨Lc50, hQ50, l50, y50, z50⟩, st50⟩ := Jvm.LawKit.callS X0 hx (y := (⟨"com/example/orderly_commit/orderlycommit/jdbc/StatementKindWeightierPinLaw", "kindOf", "(I)Lcom/example/orderly_commit/orderlycommit/jdbc/StatementKind;"⟩ : MethodName)) hown (mvT hZ (hw _ (List.mem_of_getElem? (i := 1) rfl))) (mvT hZ (hw _ (List.mem_of_getElem? (i := 2) rfl))) (mvT hZ (hw _ (List.mem_of_getElem? (i := 3) rfl))) (mvT hZ (hw _ (List.mem_of_getElem? (i := 4) rfl))) (by decide) (own_back (W := 0) (own_kind2 l Z a0 hw [] u0 u1 u2 h0 n0 O S_u0 S_u1 S_u2) hZ (hw _ (List.mem_of_getElem? (i := 4) rfl)) (hw _ (List.mem_of_getElem? (i := 3) rfl)) (by decide) (by decide)) (g := (mkF m 15 #[.val (.int p1), .val (.int p2), .val (.int (2 : Int32)), .val (.int (2 : Int32)), .unset, .unset, .unset] [(.int (2 : Int32))])) rfl (by rw [hml]; rfl) (argsL := [(.int (2 : Int32))]) (rest := []) (lenOf own_pd1 rfl) rfl (by show 2 * 0 + _ ≤ _; exact Nat.le_of_eq rfl) (hb hby at_15) (fun _ _ => ⟨rfl, e0, (by decide : 0 + 0 ≤ _), (by decide : 0 + 0 ≤ _)⟩)
      dsimp only [Pt.U, Pt.locs, Pt.cells, Pt.slots] at X50 l50 y50 z50 st50 hQ50
      subst l50 y50 z50
      obtain ⟨rfl, N50q, e50⟩ := hQ50
      have N50 := Fr.app N0 N50q
      refine own_by st50 ?_
      show own_End p e below _ (T50.setTop (mkF m 18 #[.val (.int p1), .val (.int p2), .val (.int (2 : Int32)), .val (.int (2 : Int32)), .unset, .unset, .unset] [(.ref u2)]))
      refine own_by (fun _ k => XS.astore X50.here hx rfl (hb hby at_18) rfl rfl (l' := #[.val (.int p1), .val (.int p2), .val (.int (2 : Int32)), .val (.int (2 : Int32)), .val (.ref u2), .unset, .unset]) rfl k) ?_
      show own_End p e below _ (T50.setTop (mkF m 20 #[.val (.int p1), .val (.int p2), .val (.int (2 : Int32)), .val (.int (2 : Int32)), .val (.ref u2), .unset, .unset] []))
      refine own_by (fun _ k => XS.iloadN X50.here hx rfl (hb hby at_20) rfl k) ?_
      show own_End p e below _ (T50.setTop (mkF m 21 #[.val (.int p1), .val (.int p2), .val (.int (2 : Int32)), .val (.int (2 : Int32)), .val (.ref u2), .unset, .unset] [(.int (2 : Int32))]))
      obtain ⟨_, _, ⟨T51, L51, k51, n51⟩, -, X51, ⟨Lc51, hQ51, l51, y51, z51⟩, st51⟩ := Jvm.LawKit.callS X50 hx (y := (⟨"com/example/orderly_commit/orderlycommit/jdbc/StatementKindWeightierPinLaw", "kindOf", "(I)Lcom/example/orderly_commit/orderlycommit/jdbc/StatementKind;"⟩ : MethodName)) hown (mvT hZ (hw _ (List.mem_of_getElem? (i := 1) rfl))) (mvT hZ (hw _ (List.mem_of_getElem? (i := 2) rfl))) (mvT hZ (hw _ (List.mem_of_getElem? (i := 3) rfl))) (mvT hZ (hw _ (List.mem_of_getElem? (i := 4) rfl))) (by decide) (own_back (W := 0) (own_kind2 l Z a0 hw [] u0 u1 u2 h0 n0 O S_u0 S_u1 S_u2) hZ (hw _ (List.mem_of_getElem? (i := 4) rfl)) (hw _ (List.mem_of_getElem? (i := 3) rfl)) (by decide) (by decide)) (g := (mkF m 21 #[.val (.int p1), .val (.int p2), .val (.int (2 : Int32)), .val (.int (2 : Int32)), .val (.ref u2), .unset, .unset] [(.int (2 : Int32))])) rfl (by rw [hml]; rfl) (argsL := [(.int (2 : Int32))]) (rest := []) (lenOf own_pd1 rfl) rfl (by show 2 * 0 + _ ≤ _; exact Nat.le_of_eq rfl) (hb hby at_21) (fun _ _ => ⟨rfl, e50, (by decide : 0 + 0 ≤ _), (by decide : 0 + 0 ≤ _)⟩)
      dsimp only [Pt.U, Pt.locs, Pt.cells, Pt.slots] at X51 l51 y51 z51 st51 hQ51
      subst l51 y51 z51
      obtain ⟨rfl, N51q, e51⟩ := hQ51
      have N51 := Fr.app N50 N51q
      refine own_by st51 ?_
      show own_End p e below _ (T51.setTop (mkF m 24 #[.val (.int p1), .val (.int p2), .val (.int (2 : Int32)), .val (.int (2 : Int32)), .val (.ref u2), .unset, .unset] [(.ref u2)]))
      refine own_by (fun _ k => XS.astore X51.here hx rfl (hb hby at_24) rfl rfl (l' := #[.val (.int p1), .val (.int p2), .val (.int (2 : Int32)), .val (.int (2 : Int32)), .val (.ref u2), .val (.ref u2), .unset]) rfl k) ?_
      show own_End p e below _ (T51.setTop (mkF m 26 #[.val (.int p1), .val (.int p2), .val (.int (2 : Int32)), .val (.int (2 : Int32)), .val (.ref u2), .val (.ref u2), .unset] []))
      refine own_by (fun _ k => XS.aload X51.here hx rfl (hb hby at_26) rfl rfl k) ?_
      show own_End p e below _ (T51.setTop (mkF m 28 #[.val (.int p1), .val (.int p2), .val (.int (2 : Int32)), .val (.int (2 : Int32)), .val (.ref u2), .val (.ref u2), .unset] [(.ref u2)]))
      refine own_by (fun _ k => XS.aload X51.here hx rfl (hb hby at_28) rfl rfl k) ?_
      show own_End p e below _ (T51.setTop (mkF m 30 #[.val (.int p1), .val (.int p2), .val (.int (2 : Int32)), .val (.int (2 : Int32)), .val (.ref u2), .val (.ref u2), .unset] [(.ref u2), (.ref u2)]))
      obtain ⟨_, _, ⟨T52, L52, k52, n52⟩, -, X52, ⟨Lc52, hQ52, l52, y52, z52⟩, st52⟩ := Jvm.LawKit.callS X51 hx (y := (⟨"com/example/orderly_commit/orderlycommit/jdbc/StatementKind", "weightier", "(Lcom/example/orderly_commit/orderlycommit/jdbc/StatementKind;Lcom/example/orderly_commit/orderlycommit/jdbc/StatementKind;)Lcom/example/orderly_commit/orderlycommit/jdbc/StatementKind;"⟩ : MethodName)) hown (mvT hZ (hw _ (List.mem_of_getElem? (i := 8) rfl))) (mvT hZ (hw _ (List.mem_of_getElem? (i := 9) rfl))) (mvT hZ (hw _ (List.mem_of_getElem? (i := 6) rfl))) (mvT hZ (hw _ (List.mem_of_getElem? (i := 10) rfl))) (by decide) (own_back (W := 0) (own_wei l Z a0 hw [] u2 u2 u2 2 2 h0 n0 O E_u2 E_u2 F_u2 F_u2 hM (Or.inr ⟨by decide, rfl⟩)) hZ (hw _ (List.mem_of_getElem? (i := 10) rfl)) (hw _ (List.mem_of_getElem? (i := 6) rfl)) (by decide) (by decide)) (g := (mkF m 30 #[.val (.int p1), .val (.int p2), .val (.int (2 : Int32)), .val (.int (2 : Int32)), .val (.ref u2), .val (.ref u2), .unset] [(.ref u2), (.ref u2)])) rfl (by rw [hml]; rfl) (argsL := [(.ref u2), (.ref u2)]) (rest := []) (lenOf own_pd2 rfl) rfl (by show 2 * 0 + _ ≤ _; exact Nat.le_of_eq rfl) (hb hby at_30) (fun _ _ => ⟨rfl, e51, (by decide : 0 + 0 ≤ _), (by decide : 0 + 0 ≤ _)⟩)
      dsimp only [Pt.U, Pt.locs, Pt.cells, Pt.slots] at X52 l52 y52 z52 st52 hQ52
      subst l52 y52 z52
      obtain ⟨rfl, N52q, e52⟩ := hQ52
      have N52 := Fr.app N51 N52q
      refine own_by st52 ?_
      show own_End p e below _ (T52.setTop (mkF m 33 #[.val (.int p1), .val (.int p2), .val (.int (2 : Int32)), .val (.int (2 : Int32)), .val (.ref u2), .val (.ref u2), .unset] [(.ref u2)]))
      refine own_by (fun _ k => XS.astore X52.here hx rfl (hb hby at_33) rfl rfl (l' := #[.val (.int p1), .val (.int p2), .val (.int (2 : Int32)), .val (.int (2 : Int32)), .val (.ref u2), .val (.ref u2), .val (.ref u2)]) rfl k) ?_
      show own_End p e below _ (T52.setTop (mkF m 35 #[.val (.int p1), .val (.int p2), .val (.int (2 : Int32)), .val (.int (2 : Int32)), .val (.ref u2), .val (.ref u2), .val (.ref u2)] []))
      refine own_by (fun _ k => XS.aload X52.here hx rfl (hb hby at_35) rfl rfl k) ?_
      show own_End p e below _ (T52.setTop (mkF m 37 #[.val (.int p1), .val (.int p2), .val (.int (2 : Int32)), .val (.int (2 : Int32)), .val (.ref u2), .val (.ref u2), .val (.ref u2)] [(.ref u2)]))
      refine own_by (fun _ k => XS.iloadN X52.here hx rfl (hb hby at_37) rfl k) ?_
      show own_End p e below _ (T52.setTop (mkF m 38 #[.val (.int p1), .val (.int p2), .val (.int (2 : Int32)), .val (.int (2 : Int32)), .val (.ref u2), .val (.ref u2), .val (.ref u2)] [(.int (2 : Int32)), (.ref u2)]))
      refine own_by (fun _ k => XS.iloadN X52.here hx rfl (hb hby at_38) rfl k) ?_
      show own_End p e below _ (T52.setTop (mkF m 39 #[.val (.int p1), .val (.int p2), .val (.int (2 : Int32)), .val (.int (2 : Int32)), .val (.ref u2), .val (.ref u2), .val (.ref u2)] [(.int (2 : Int32)), (.int (2 : Int32)), (.ref u2)]))
      obtain ⟨_, _, ⟨T53, L53, k53, n53⟩, -, X53, ⟨Lc53, hQ53, l53, y53, z53⟩, st53⟩ := Jvm.LawKit.callS X52 hx (y := (⟨"java/lang/Math", "max", "(II)I"⟩ : MethodName)) hown (mvT hZ (hw _ (List.mem_of_getElem? (i := 26) rfl))) (mvT hZ (hw _ (List.mem_of_getElem? (i := 27) rfl))) (mvT hZ (hw _ (List.mem_of_getElem? (i := 28) rfl))) (mvT hZ (hw _ (List.mem_of_getElem? (i := 29) rfl))) (by decide) (own_back (W := 1) (own_max22 l Z a0 hw [] h0 n0) hZ (hw _ (List.mem_of_getElem? (i := 29) rfl)) (hw _ (List.mem_of_getElem? (i := 28) rfl)) (by decide) (by decide)) (g := (mkF m 39 #[.val (.int p1), .val (.int p2), .val (.int (2 : Int32)), .val (.int (2 : Int32)), .val (.ref u2), .val (.ref u2), .val (.ref u2)] [(.int (2 : Int32)), (.int (2 : Int32)), (.ref u2)])) rfl (by rw [hml]; rfl) (argsL := [(.int (2 : Int32)), (.int (2 : Int32))]) (rest := [(.ref u2)]) (lenOf own_pd3 rfl) rfl (by show 2 * 0 + _ ≤ _; exact Nat.le_of_eq rfl) (hb hby at_39) (fun _ _ => ⟨rfl, e52, (by decide : 0 + 0 ≤ _), (by decide : 0 + 0 ≤ _)⟩)
      dsimp only [Pt.U, Pt.locs, Pt.cells, Pt.slots] at X53 l53 y53 z53 st53 hQ53
      subst l53 y53 z53
      obtain ⟨rfl, N53q, e53⟩ := hQ53
      have N53 := Fr.app N52 N53q
      refine own_by st53 ?_
      show own_End p e below _ (T53.setTop (mkF m 42 #[.val (.int p1), .val (.int p2), .val (.int (2 : Int32)), .val (.int (2 : Int32)), .val (.ref u2), .val (.ref u2), .val (.ref u2)] [(.int (2 : Int32)), (.ref u2)]))
      obtain ⟨_, _, ⟨T54, L54, k54, n54⟩, -, X54, ⟨Lc54, hQ54, l54, y54, z54⟩, st54⟩ := Jvm.LawKit.callS X53 hx (y := (⟨"com/example/orderly_commit/orderlycommit/jdbc/StatementKindWeightierPinLaw", "kindOf", "(I)Lcom/example/orderly_commit/orderlycommit/jdbc/StatementKind;"⟩ : MethodName)) hown (mvT hZ (hw _ (List.mem_of_getElem? (i := 1) rfl))) (mvT hZ (hw _ (List.mem_of_getElem? (i := 2) rfl))) (mvT hZ (hw _ (List.mem_of_getElem? (i := 3) rfl))) (mvT hZ (hw _ (List.mem_of_getElem? (i := 4) rfl))) (by decide) (own_back (W := 1) (own_kind2 l Z a0 hw [] u0 u1 u2 h0 n0 O S_u0 S_u1 S_u2) hZ (hw _ (List.mem_of_getElem? (i := 4) rfl)) (hw _ (List.mem_of_getElem? (i := 3) rfl)) (by decide) (by decide)) (g := (mkF m 42 #[.val (.int p1), .val (.int p2), .val (.int (2 : Int32)), .val (.int (2 : Int32)), .val (.ref u2), .val (.ref u2), .val (.ref u2)] [(.int (2 : Int32)), (.ref u2)])) rfl (by rw [hml]; rfl) (argsL := [(.int (2 : Int32))]) (rest := [(.ref u2)]) (lenOf own_pd1 rfl) rfl (by show 2 * 0 + _ ≤ _; exact Nat.le_of_eq rfl) (hb hby at_42) (fun _ _ => ⟨rfl, e53, (by decide : 0 + 0 ≤ _), (by decide : 0 + 0 ≤ _)⟩)
      dsimp only [Pt.U, Pt.locs, Pt.cells, Pt.slots] at X54 l54 y54 z54 st54 hQ54
      subst l54 y54 z54
      obtain ⟨rfl, N54q, e54⟩ := hQ54
      have N54 := Fr.app N53 N54q
      refine own_by st54 ?_
      show own_End p e below _ (T54.setTop (mkF m 45 #[.val (.int p1), .val (.int p2), .val (.int (2 : Int32)), .val (.int (2 : Int32)), .val (.ref u2), .val (.ref u2), .val (.ref u2)] [(.ref u2), (.ref u2)]))
      refine own_by (fun _ k => Jvm.RoadKit.acmp (g := (mkF m 45 #[.val (.int p1), .val (.int p2), .val (.int (2 : Int32)), .val (.int (2 : Int32)), .val (.ref u2), .val (.ref u2), .val (.ref u2)] [(.ref u2), (.ref u2)])) X54 hx rfl rfl rfl (pc0 := 45) (pc' := 48) (same := true) rfl (hb hby at_45) rfl (decide_eq_true rfl) (by decide) (by decide) k) ?_
      show own_End p e below _ (T54.setTop (mkF m 48 #[.val (.int p1), .val (.int p2), .val (.int (2 : Int32)), .val (.int (2 : Int32)), .val (.ref u2), .val (.ref u2), .val (.ref u2)] []))
      refine own_by (fun _ k => XS.iconst X54.here hx rfl (hb hby at_48) k) ?_
      show own_End p e below _ (T54.setTop (mkF m 49 #[.val (.int p1), .val (.int p2), .val (.int (2 : Int32)), .val (.int (2 : Int32)), .val (.ref u2), .val (.ref u2), .val (.ref u2)] [(.int (1 : Int32))]))
      refine own_by (fun _ k => XS.goto X54.here hx rfl (pc0 := 49) (pc' := 53) rfl (hb hby at_49) (by decide) (by decide) k) ?_
      show own_End p e below _ (T54.setTop (mkF m 53 #[.val (.int p1), .val (.int p2), .val (.int (2 : Int32)), .val (.int (2 : Int32)), .val (.ref u2), .val (.ref u2), .val (.ref u2)] [(.int (1 : Int32))]))
      obtain ⟨fs, hr, hrun, hended, hW, hsame⟩ := X54.leave (v := (some (.int (1 : Int32)))) (fun h => by rw [Bd.returns] at h; cases h)
      refine ⟨_, _, retN X54 hx (t := .boolean) Bd.returns (by simp) (hb hby at_53) hr, hrun, hended, _, _, rfl, ?_, ⟨_, rfl⟩, hW, hsame.mono (by decide) (by decide)⟩
      exact ⟨rfl, N54⟩
set_option maxRecDepth 65536 in
set_option maxHeartbeats 40000000 in
theorem comes_1 {Post : Tables → Env → Array Value → State → Outcome → State → Prop} (hpost : ∀ tb e args s v u, (limb_1_1.after args s (.returned v) u = true ∧ limb_1_2.after args s (.returned v) u = true ∧ True) → FrameEnd s (.returned v) u (Jvm.fieldLocs frame_1_writes args s ++ Jvm.arrayLocs frame_1_arrays args s ++ Jvm.staticLocs frame_1_statics s) 0 0 → Post tb e args s (.returned v) u) :
    ArmFor flags0 classFile x code maxLocals ret World_1 tables_1 room_1 Calls_1 rest_1 Pre_1 Post := by
  intro l hfl _ _ p e ha hc hk s m args below hf hA hF happ hP
  obtain ⟨hcalls, hrest, hpre⟩ := hP
  obtain ⟨-, -, -, hnamed, -, -, -, hat⟩ := (Spec.applies_iff hf).mp happ
  obtain ⟨hg, hn⟩ := and_e (Cond.before_iff.mp (show (Jvm.Cond.and given_1 narrow_1).before args s = true from hpre))
  obtain ⟨g0, g0'⟩ := and_e hg
  obtain ⟨g1, g1'⟩ := and_e g0'
  obtain ⟨w0, w1, rfl⟩ : ∃ w0 w1 : Value, args = #[w0, w1] := by
    have hs : args.size = 2 := by simpa [Cond.value, given_1] using g0
    obtain ⟨L⟩ := args
    match L, hs with
    | [w0, w1], _ => exact ⟨w0, w1, rfl⟩
  have hw := fun d (hd : d ∈ tables_1) => atoms_spec (ws := Jvm.Cond.code x code maxLocals ret :: tables_1) hat d (List.mem_cons_of_mem _ hd)
  have hfit : Fit s := fun {y c} hc i hi => by
    obtain ⟨ha, rfl⟩ := Array.getElem?_eq_some_iff.mp hc
    have q := List.all_eq_true.mp ((Array.all_eq_true_iff_forall_mem.mp hF) _ (Array.getElem_mem ha)) i (List.mem_range.mpr hi)
    simpa [Array.getElem?_eq_getElem hi] using q
  obtain ⟨i0, ei0⟩ := is_v g1
  obtain rfl : w0 = (.int i0) := Option.some.inj ei0
  obtain ⟨i1, ei1⟩ := is_v g1'
  obtain rfl : w1 = (.int i1) := Option.some.inj ei1
  obtain ⟨q0, hn⟩ := and_e hn
  obtain ⟨q1, hn⟩ := and_e hn
  obtain ⟨q2, hn⟩ := and_e hn
  obtain ⟨q3, hn⟩ := and_e hn
  obtain ⟨q4, hn⟩ := and_e hn
  obtain ⟨u0, ev_u0⟩ := exa_v q0
  have S_u0 := Sta.start ev_u0 (Or.inr ⟨(hw _ (List.mem_of_getElem? (i := 6) rfl)), (hw _ (List.mem_of_getElem? (i := 7) rfl))⟩)
  have E_u0 := Exa.start ev_u0 q0
  obtain ⟨u2, ev_u2⟩ := exa_v q2
  have S_u2 := Sta.start ev_u2 (Or.inr ⟨(hw _ (List.mem_of_getElem? (i := 6) rfl)), (hw _ (List.mem_of_getElem? (i := 31) rfl))⟩)
  have E_u2 := Exa.start ev_u2 q2
  obtain ⟨u1, ev_u1⟩ := exa_v q3
  have S_u1 := Sta.start ev_u1 (Or.inr ⟨(hw _ (List.mem_of_getElem? (i := 6) rfl)), (hw _ (List.mem_of_getElem? (i := 33) rfl))⟩)
  have E_u1 := Exa.start ev_u1 q3
  have f_ordinal_u0 := own_intEq q1
  rw [fld_at ev_u0] at f_ordinal_u0
  have F_ordinal_u0 := Fld.start f_ordinal_u0
  have f_ordinal_u1 := own_intEq q4
  rw [fld_at ev_u1] at f_ordinal_u1
  have F_ordinal_u1 := Fld.start f_ordinal_u1
  have f_ordinal_u2 := own_intEq hn
  rw [fld_at ev_u2] at f_ordinal_u2
  have F_ordinal_u2 := Fld.start f_ordinal_u2
  obtain ⟨n, o, h1, h2, h3, _, L, rfl, ⟨rfl, N⟩, hq⟩ := own_law l s _ hw tables_1 i0 i1 u0 u1 u2 s.heap s.heap.size ⟨Nat.le_refl _, fun _ _ q => q⟩ S_u0 S_u1 S_u2 E_u0 F_ordinal_u0 E_u1 F_ordinal_u1 E_u2 F_ordinal_u2 hcalls.1 p e ha hc hk s m _ below hf ((Spec.applies_iff_loose hf).mp happ).1 ⟨rfl, State.Warmed39.refl s, rfl⟩ trivial
  refine ⟨n, _, h1, h2, h3, hpost _ _ _ _ _ _ ⟨Cond.after_iff.mpr rfl, Cond.after_iff.mpr (eq_i res_at (Term.int_eval (1)) rfl), trivial⟩ ⟨hq.1, hq.2.1, (hq.2.2.sift fun y hy => Or.inr (N y hy)).mono (by decide) (by decide)⟩⟩
theorem main_1_1 : Claimed_1_1 := comes_1 fun _ _ _ _ _ _ h hF => ⟨h.1, hF⟩
theorem main_1_2 : Claimed_1_2 := comes_1 fun _ _ _ _ _ _ h hF => ⟨h.2.1, hF⟩
end Jvm.Pilot.@@N@@
namespace Jvm.Pilot.@@N@@
open Jvm Jvm.ClassFile Sem Op Lib Jvm.Free Jvm.Stand Jvm.Pilot.@@N@@.Jvm.D
/-! MADE BY PROGRAM (witnessworld.py) out of the Statement's table words and the real class files: 13 classes; the members and pool entries that the words name. The judged class is class 1, her method 1. -/
namespace start1
open Jvm.ClassFile
def u (s : String) : CpInfo := .utf8 (stringToUtf16 s)
/-- a pool by its gaps: so many unusable entries, then the entry; so many at the end -/
def gap : Nat → List CpInfo → List CpInfo
  | 0, r => r
  | n + 1, r => .unusable :: gap n r
def poolList (es : List (Nat × CpInfo)) (last : Nat) : List CpInfo := es.foldr (fun e r => gap e.1 (e.2 :: r)) (gap last [])
def pool (es : List (Nat × CpInfo)) (last : Nat) : Array CpInfo := ⟨poolList es last⟩
def fileOf (pool : Array CpInfo) (this : Nat) (attrs : Array Attribute := #[]) (ms : Array MethodInfo := #[]) (fl : Nat := 33) (sup : Nat := 0) (ifs : Array Nat := #[]) (fds : Array FieldInfo := #[]) : ClassFile where
  minorVersion := 0
  majorVersion := 65
  constantPool := pool
  accessFlags := fl
  thisClass := this
  superClass := sup
  interfaces := ifs
  fields := fds
  methods := ms
  attributes := attrs
def plain (name : String) (sup : Option ClassId) : Class where
  name := name
  kind := .ordinary
  loader := none
  accessFlags := 33
  super := sup
  interfaces := #[]
  cf := none
  fields := #[]
  methods := #[]
  instanceTypes := #[]
  staticTypes := #[]
  resolved := #[]
  callSites := []
  init := .initialized
  statics := none
  mirror := none

def pool0 : Array CpInfo := pool [(5, u "<init>"), (0, u "()V"), (1, .class_ 10), (1, u "java/lang/Object"), (0, u "getClass"), (0, u "()Ljava/lang/Class;")] 111

def k0m0 : Method := { name := "<init>", desc := "()V", sig := { parameters := [], returnType := none }, accessFlags := 1, code := none }
def k0m1 : Method := { name := "getClass", desc := "()Ljava/lang/Class;", sig := { parameters := [], returnType := some (.object "java/lang/Class") }, accessFlags := 273, code := none }
/-- java/lang/Object -/
def k0 : Class := { plain "java/lang/Object" none with
  accessFlags := 33
  interfaces := #[]
  cf := some (fileOf pool0 8 #[] #[{ accessFlags := 1, nameIndex := 5, descriptorIndex := 6, attributes := #[] }, { accessFlags := 273, nameIndex := 11, descriptorIndex := 12, attributes := #[] }] 33 0 #[] #[])
  fields := #[]
  methods := #[k0m0, k0m1]
  instanceTypes := #[]
  staticTypes := #[]
  resolved := Array.replicate 124 none
  statics := none }

def pool1 : Array CpInfo := pool [(2, .class_ 4), (1, u "java/lang/Object"), (0, u "<init>"), (0, u "()V"), (0, .integer 2147483647), (0, .methodref 9 10), (0, .class_ 11), (0, .nameAndType 12 13), (0, u "com/example/orderly_commit/orderlycommit/jdbc/StatementKindWeightierPinLaw"), (0, u "kindOf"), (0, u "(I)Lcom/example/orderly_commit/orderlycommit/jdbc/StatementKind;"), (0, .methodref 15 16), (0, .class_ 17), (0, .nameAndType 18 19), (0, u "com/example/orderly_commit/orderlycommit/jdbc/StatementKind"), (0, u "weightier"), (0, u "(Lcom/example/orderly_commit/orderlycommit/jdbc/StatementKind;Lcom/example/orderly_commit/orderlycommit/jdbc/StatementKind;)Lcom/example/orderly_commit/orderlycommit/jdbc/StatementKind;"), (0, .methodref 21 22), (0, .class_ 23), (0, .nameAndType 24 25), (0, u "java/lang/Math"), (0, u "max"), (0, u "(II)I"), (0, .fieldref 15 27), (0, .nameAndType 28 29), (0, u "ORDINARY"), (0, u "Lcom/example/orderly_commit/orderlycommit/jdbc/StatementKind;"), (0, .fieldref 15 31), (0, .nameAndType 32 29), (0, u "OTHER"), (0, .fieldref 15 34), (0, .nameAndType 35 29), (0, u "TRANSACTION_CONTROL"), (2, u "law"), (0, u "(II)Z")] 3

def k1m0 : Method := { name := "<init>", desc := "()V", sig := { parameters := [], returnType := none }, accessFlags := 1, code := none }
def k1c1 : Code := { maxStack := 3, maxLocals := 7, code := code, exceptionTable := #[], attributes := #[] }
def k1m1 : Method := { name := "law", desc := "(II)Z", sig := { parameters := [.int, .int], returnType := some .boolean }, accessFlags := 9, code := some k1c1 }
def k1c2 : Code := { maxStack := 2, maxLocals := 1, code := method_3_code, exceptionTable := #[], attributes := #[] }
def k1m2 : Method := { name := "kindOf", desc := "(I)Lcom/example/orderly_commit/orderlycommit/jdbc/StatementKind;", sig := { parameters := [.int], returnType := some (.object "com/example/orderly_commit/orderlycommit/jdbc/StatementKind") }, accessFlags := 10, code := some k1c2 }
/-- com/example/orderly_commit/orderlycommit/jdbc/StatementKindWeightierPinLaw -/
def k1 : Class := { plain "com/example/orderly_commit/orderlycommit/jdbc/StatementKindWeightierPinLaw" (some 0) with
  accessFlags := 49
  interfaces := #[]
  cf := some (fileOf pool1 9 #[] #[{ accessFlags := 1, nameIndex := 5, descriptorIndex := 6, attributes := #[] }, { accessFlags := 9, nameIndex := 38, descriptorIndex := 39, attributes := #[] }, { accessFlags := 10, nameIndex := 12, descriptorIndex := 13, attributes := #[] }] 49 2 #[] #[])
  fields := #[]
  methods := #[k1m0, k1m1, k1m2]
  instanceTypes := #[]
  staticTypes := #[]
  resolved := Array.replicate 43 none
  statics := none }

def pool2 : Array CpInfo := pool [(1, .class_ 2), (0, u "java/lang/constant/Constable"), (0, .class_ 4), (0, u "java/lang/Object")] 6

/-- java/lang/constant/Constable -/
def k2 : Class := { plain "java/lang/constant/Constable" (some 0) with
  accessFlags := 1537
  interfaces := #[]
  cf := some (fileOf pool2 1 #[] #[] 1537 3 #[] #[])
  fields := #[]
  methods := #[]
  instanceTypes := #[]
  staticTypes := #[]
  resolved := Array.replicate 11 none
  statics := none }

def pool3 : Array CpInfo := pool [(1, .class_ 2), (0, u "java/lang/Comparable"), (0, .class_ 4), (0, u "java/lang/Object")] 7

/-- java/lang/Comparable -/
def k3 : Class := { plain "java/lang/Comparable" (some 0) with
  accessFlags := 1537
  interfaces := #[]
  cf := some (fileOf pool3 1 #[] #[] 1537 3 #[] #[])
  fields := #[]
  methods := #[]
  instanceTypes := #[]
  staticTypes := #[]
  resolved := Array.replicate 12 none
  statics := none }

def pool4 : Array CpInfo := pool [(1, .class_ 2), (0, u "java/io/Serializable"), (0, .class_ 4), (0, u "java/lang/Object")] 2

/-- java/io/Serializable -/
def k4 : Class := { plain "java/io/Serializable" (some 0) with
  accessFlags := 1537
  interfaces := #[]
  cf := some (fileOf pool4 1 #[] #[] 1537 3 #[] #[])
  fields := #[]
  methods := #[]
  instanceTypes := #[]
  staticTypes := #[]
  resolved := Array.replicate 7 none
  statics := none }

def pool5 : Array CpInfo := pool [(2, .class_ 4), (1, u "java/lang/Enum"), (0, u "name"), (0, u "Ljava/lang/String;"), (0, .fieldref 2 8), (0, .nameAndType 9 10), (0, u "ordinal"), (0, u "I"), (1, .class_ 14), (1, u "java/lang/Object"), (4, u "hash"), (9, .methodref 12 30), (0, .nameAndType 31 32), (0, u "getClass"), (0, u "()Ljava/lang/Class;"), (70, u "compareTo"), (0, u "(Ljava/lang/Enum;)I"), (1, .class_ 108), (1, u "java/lang/Enum$EnumDesc"), (2, .class_ 112), (0, u "java/lang/constant/Constable"), (0, .class_ 114), (0, u "java/lang/Comparable"), (0, .class_ 116), (0, u "java/io/Serializable")] 87

def k5c0 : Code := { maxStack := 2, maxLocals := 4, code := jdk_37_method_8_code, exceptionTable := #[], attributes := #[] }
def k5m0 : Method := { name := "compareTo", desc := "(Ljava/lang/Enum;)I", sig := { parameters := [(.object "java/lang/Enum")], returnType := some .int }, accessFlags := 17, code := some k5c0 }
/-- java/lang/Enum -/
def k5 : Class := { plain "java/lang/Enum" (some 0) with
  accessFlags := 1057
  interfaces := #[2, 3, 4]
  cf := some (fileOf pool5 2 #[.nestMembers #[106]] #[{ accessFlags := 17, nameIndex := 103, descriptorIndex := 104, attributes := #[] }] 1057 12 #[111, 113, 115] #[{ accessFlags := 18, nameIndex := 5, descriptorIndex := 6, attributes := #[] }, { accessFlags := 18, nameIndex := 9, descriptorIndex := 10, attributes := #[] }, { accessFlags := 2, nameIndex := 19, descriptorIndex := 10, attributes := #[] }])
  fields := #[{ name := "name", type := (.object "java/lang/String"), accessFlags := 18, slot := 0, constantValue := 0 }, { name := "ordinal", type := .int, accessFlags := 18, slot := 1, constantValue := 0 }, { name := "hash", type := .int, accessFlags := 2, slot := 2, constantValue := 0 }]
  methods := #[k5m0]
  instanceTypes := #[(.object "java/lang/String"), .int, .int]
  staticTypes := #[]
  resolved := Array.replicate 204 none
  statics := none }

def pool6 : Array CpInfo := pool [(1, .class_ 2), (0, u "com/example/orderly_commit/orderlycommit/jdbc/StatementKind"), (2, u "ORDINARY"), (0, u "Lcom/example/orderly_commit/orderlycommit/jdbc/StatementKind;"), (2, u "OTHER"), (2, u "TRANSACTION_CONTROL"), (2, u "$VALUES"), (0, u "[Lcom/example/orderly_commit/orderlycommit/jdbc/StatementKind;"), (6, .class_ 25), (1, u "java/lang/Enum"), (12, u "weightier"), (0, u "(Lcom/example/orderly_commit/orderlycommit/jdbc/StatementKind;Lcom/example/orderly_commit/orderlycommit/jdbc/StatementKind;)Lcom/example/orderly_commit/orderlycommit/jdbc/StatementKind;"), (6, .methodref 1 47), (0, .nameAndType 48 49), (0, u "compareTo"), (0, u "(Ljava/lang/Enum;)I"), (25, u "WORDS"), (0, u "[[Ljava/lang/String;"), (9, u "KINDS"), (0, u "[[Lcom/example/orderly_commit/orderlycommit/jdbc/StatementKind;"), (1, u "ROLLBACK"), (116, u "ORDINARY_WORDS"), (0, u "Ljava/util/List;"), (19, u "TRANSACTION_CONTROL_WORDS"), (27, u "Ljava/lang/String;")] 13

def k6c0 : Code := { maxStack := 2, maxLocals := 2, code := prog_33_method_5_code, exceptionTable := #[], attributes := #[] }
def k6m0 : Method := { name := "weightier", desc := "(Lcom/example/orderly_commit/orderlycommit/jdbc/StatementKind;Lcom/example/orderly_commit/orderlycommit/jdbc/StatementKind;)Lcom/example/orderly_commit/orderlycommit/jdbc/StatementKind;", sig := { parameters := [(.object "com/example/orderly_commit/orderlycommit/jdbc/StatementKind"), (.object "com/example/orderly_commit/orderlycommit/jdbc/StatementKind")], returnType := some (.object "com/example/orderly_commit/orderlycommit/jdbc/StatementKind") }, accessFlags := 8, code := some k6c0 }
/-- com/example/orderly_commit/orderlycommit/jdbc/StatementKind -/
def k6 : Class := { plain "com/example/orderly_commit/orderlycommit/jdbc/StatementKind" (some 5) with
  accessFlags := 16432
  interfaces := #[]
  cf := some (fileOf pool6 1 #[] #[{ accessFlags := 8, nameIndex := 38, descriptorIndex := 39, attributes := #[] }] 16432 23 #[] #[{ accessFlags := 16409, nameIndex := 5, descriptorIndex := 6, attributes := #[] }, { accessFlags := 16409, nameIndex := 9, descriptorIndex := 6, attributes := #[] }, { accessFlags := 16409, nameIndex := 12, descriptorIndex := 6, attributes := #[] }, { accessFlags := 26, nameIndex := 89, descriptorIndex := 255, attributes := #[] }, { accessFlags := 26, nameIndex := 206, descriptorIndex := 207, attributes := #[] }, { accessFlags := 26, nameIndex := 227, descriptorIndex := 207, attributes := #[] }, { accessFlags := 26, nameIndex := 75, descriptorIndex := 76, attributes := #[] }, { accessFlags := 26, nameIndex := 86, descriptorIndex := 87, attributes := #[] }, { accessFlags := 4122, nameIndex := 15, descriptorIndex := 16, attributes := #[] }])
  fields := #[{ name := "ORDINARY", type := (.object "com/example/orderly_commit/orderlycommit/jdbc/StatementKind"), accessFlags := 16409, slot := 0, constantValue := 0 }, { name := "OTHER", type := (.object "com/example/orderly_commit/orderlycommit/jdbc/StatementKind"), accessFlags := 16409, slot := 1, constantValue := 0 }, { name := "TRANSACTION_CONTROL", type := (.object "com/example/orderly_commit/orderlycommit/jdbc/StatementKind"), accessFlags := 16409, slot := 2, constantValue := 0 }, { name := "ROLLBACK", type := (.object "java/lang/String"), accessFlags := 26, slot := 3, constantValue := 0 }, { name := "ORDINARY_WORDS", type := (.object "java/util/List"), accessFlags := 26, slot := 4, constantValue := 0 }, { name := "TRANSACTION_CONTROL_WORDS", type := (.object "java/util/List"), accessFlags := 26, slot := 5, constantValue := 0 }, { name := "WORDS", type := (.array (.array (.object "java/lang/String"))), accessFlags := 26, slot := 6, constantValue := 0 }, { name := "KINDS", type := (.array (.array (.object "com/example/orderly_commit/orderlycommit/jdbc/StatementKind"))), accessFlags := 26, slot := 7, constantValue := 0 }, { name := "$VALUES", type := (.array (.object "com/example/orderly_commit/orderlycommit/jdbc/StatementKind")), accessFlags := 4122, slot := 8, constantValue := 0 }]
  methods := #[k6m0]
  instanceTypes := #[(.object "java/lang/String"), .int, .int]
  staticTypes := #[(.object "com/example/orderly_commit/orderlycommit/jdbc/StatementKind"), (.object "com/example/orderly_commit/orderlycommit/jdbc/StatementKind"), (.object "com/example/orderly_commit/orderlycommit/jdbc/StatementKind"), (.object "java/lang/String"), (.object "java/util/List"), (.object "java/util/List"), (.array (.array (.object "java/lang/String"))), (.array (.array (.object "com/example/orderly_commit/orderlycommit/jdbc/StatementKind"))), (.array (.object "com/example/orderly_commit/orderlycommit/jdbc/StatementKind"))]
  resolved := Array.replicate 269 none
  statics := some 0
  mirror := some 4 }

def pool7 : Array CpInfo := pool [(1, .class_ 2), (0, u "java/lang/Math"), (1, .class_ 6), (1, u "java/lang/Object"), (0, u "<init>"), (0, u "()V"), (89, .class_ 100), (1, u "java/lang/Math$RandomNumberGeneratorHolder"), (71, u "negativeZeroFloatBits"), (0, u "J"), (2, u "negativeZeroDoubleBits"), (21, u "max"), (46, u "$assertionsDisabled"), (0, u "Z"), (88, u "(II)I"), (2, u "twoToTheDoubleScaleDown"), (0, u "D"), (4, u "twoToTheDoubleScaleUp"), (9, u "E"), (3, u "PI"), (2, u "TAU"), (2, u "DEGREES_TO_RADIANS"), (0, u "RADIANS_TO_DEGREES")] 94

def k7m0 : Method := { name := "<init>", desc := "()V", sig := { parameters := [], returnType := none }, accessFlags := 2, code := none }
def k7c1 : Code := { maxStack := 2, maxLocals := 2, code := jdk_29_method_65_code, exceptionTable := #[], attributes := #[] }
def k7m1 : Method := { name := "max", desc := "(II)I", sig := { parameters := [.int, .int], returnType := some .int }, accessFlags := 9, code := some k7c1 }
/-- java/lang/Math -/
def k7 : Class := { plain "java/lang/Math" (some 0) with
  accessFlags := 49
  interfaces := #[]
  cf := some (fileOf pool7 1 #[.nestMembers #[98]] #[{ accessFlags := 2, nameIndex := 7, descriptorIndex := 8, attributes := #[] }, { accessFlags := 9, nameIndex := 198, descriptorIndex := 335, attributes := #[] }] 49 4 #[] #[{ accessFlags := 25, nameIndex := 354, descriptorIndex := 339, attributes := #[] }, { accessFlags := 25, nameIndex := 358, descriptorIndex := 339, attributes := #[] }, { accessFlags := 25, nameIndex := 361, descriptorIndex := 339, attributes := #[] }, { accessFlags := 26, nameIndex := 364, descriptorIndex := 339, attributes := #[] }, { accessFlags := 26, nameIndex := 365, descriptorIndex := 339, attributes := #[] }, { accessFlags := 26, nameIndex := 172, descriptorIndex := 173, attributes := #[] }, { accessFlags := 26, nameIndex := 176, descriptorIndex := 173, attributes := #[] }, { accessFlags := 8, nameIndex := 344, descriptorIndex := 339, attributes := #[] }, { accessFlags := 8, nameIndex := 338, descriptorIndex := 339, attributes := #[] }, { accessFlags := 4120, nameIndex := 245, descriptorIndex := 246, attributes := #[] }])
  fields := #[{ name := "E", type := .double, accessFlags := 25, slot := 0, constantValue := 0 }, { name := "PI", type := .double, accessFlags := 25, slot := 1, constantValue := 0 }, { name := "TAU", type := .double, accessFlags := 25, slot := 2, constantValue := 0 }, { name := "DEGREES_TO_RADIANS", type := .double, accessFlags := 26, slot := 3, constantValue := 0 }, { name := "RADIANS_TO_DEGREES", type := .double, accessFlags := 26, slot := 4, constantValue := 0 }, { name := "negativeZeroFloatBits", type := .long, accessFlags := 26, slot := 5, constantValue := 0 }, { name := "negativeZeroDoubleBits", type := .long, accessFlags := 26, slot := 6, constantValue := 0 }, { name := "twoToTheDoubleScaleUp", type := .double, accessFlags := 8, slot := 7, constantValue := 0 }, { name := "twoToTheDoubleScaleDown", type := .double, accessFlags := 8, slot := 8, constantValue := 0 }, { name := "$assertionsDisabled", type := .boolean, accessFlags := 4120, slot := 9, constantValue := 0 }]
  methods := #[k7m0, k7m1]
  instanceTypes := #[]
  staticTypes := #[.double, .double, .double, .double, .double, .long, .long, .double, .double, .boolean]
  resolved := Array.replicate 460 none
  statics := none }

def pool8 : Array CpInfo := pool [(1, u "java/lang/Cloneable"), (0, .class_ 1), (0, u "java/lang/Object"), (0, .class_ 3)] 3

/-- java/lang/Cloneable -/
def k8 : Class := { plain "java/lang/Cloneable" (some 0) with
  accessFlags := 1537
  interfaces := #[]
  cf := some (fileOf pool8 2 #[] #[] 1537 4 #[] #[])
  fields := #[]
  methods := #[]
  instanceTypes := #[]
  staticTypes := #[]
  resolved := Array.replicate 8 none
  statics := none }

/-- the primitive byte -/
def k9 : Class := { plain "byte" none with kind := .primitive 'B', accessFlags := 0x411 }
/-- [B -/
def k10 : Class := { plain "[B" (some 0) with kind := .array 9 .byte, interfaces := #[8, 4], accessFlags := 1041 }

/-- the primitive int -/
def k11 : Class := { plain "int" none with kind := .primitive 'I', accessFlags := 0x411 }
/-- [I -/
def k12 : Class := { plain "[I" (some 0) with kind := .array 11 .int, interfaces := #[8, 4], accessFlags := 1041 }

def heap : Heap := #[{ cls := 6, slots := #[.ref 1, .ref 2, .ref 3, .null, .null, .null, .null, .null, .null], vm := .statics 6 },
  { cls := 6, slots := #[.null, .int 0, .int 0], vm := .none },
  { cls := 6, slots := #[.null, .int 1, .int 0], vm := .none },
  { cls := 6, slots := #[.null, .int 2, .int 0], vm := .none },
  { cls := 0, slots := #[], vm := .mirror 6 }]
def classes : Array Class := #[k0, k1, k2, k3, k4, k5, k6, k7, k8, k9, k10, k11, k12]
def interned : List (Array UInt16 × Addr) := []
def slotsUsed : Nat := 18
def theMethod : MethodId := ⟨1, 1⟩
def args0 : Array Value := #[.int 5, .int 7]
def aboutOver (below : List Frame) : State where
  vm := { classes := classes, interned := interned.toArray }
  heap := heap
  slotsUsed := slotsUsed
  threads := #[{ frames := .invoking theMethod args0 :: below }]
def below0 : List Frame := [.native { method := ⟨0, 0⟩, args := #[] }]
def about1 : State := aboutOver below0
def p0 : Program := .bare "" "" ""
def e0 : Env := launch0.env 0 0 0
theorem w_frames : about1.frames = Frame.invoking theMethod args0 :: below0 := rfl
set_option maxRecDepth 65536 in
theorem w_args : argsFit about1.vm theMethod args0 = true := by decide +kernel
set_option maxRecDepth 65536 in
theorem w_heap : heapFits about1 = true := by decide +kernel
set_option maxRecDepth 65536 in
theorem w_runnable : about1.curStatus? = some .runnable := by decide +kernel
set_option maxRecDepth 65536 in
theorem w_alone : about1.alone = true := by decide +kernel
set_option maxRecDepth 65536 in
theorem w_named : about1.methodNamed? x = some theMethod := by decide +kernel
set_option maxRecDepth 65536 in
theorem w_hears : about1.hears theMethod below0 = true := by decide +kernel
set_option maxRecDepth 65536 in
theorem w_ripe : about1.ripe theMethod args0 below0 = true := by decide +kernel
theorem w_running : about1.status = .running := rfl
set_option maxRecDepth 65536 in
theorem w_room : about1.hasRoom e0.platform room_1 = true :=
  launch0.hasRoom_least _ room_1 (by decide +kernel) (by decide +kernel) (by decide +kernel) (by decide +kernel) (by decide +kernel) (by decide +kernel)
theorem allAtoms_all (ts : List Jvm.Cond) (a : Array Jvm.Value) (st : Jvm.State) : (allAtoms ts).before a st = ts.all (fun c => c.before a st) := by
  induction ts with
  | nil => rfl
  | cons c t ih =>
    show (Jvm.Cond.and c (allAtoms t)).before a st = _
    rw [Jvm.Cond.before_and, ih, List.all_cons]
def words1 : List Jvm.Cond := Jvm.Cond.code x code maxLocals ret :: tables_1
/-- a 'code' word, met by the world's own term for the bytes: nothing is compared byte by byte -/
theorem code_word {y : MethodName} {bytes : ByteArray} {mx : Nat} {rt : Option FieldType} {a : Array Value} {s : State} {m : MethodId} {meth : Method} {c : Code} (h1 : s.methodNamed? y = some m) (h2 : s.vm.method? m = some meth) (h3 : meth.code = some c) (h4 : c.code = bytes)
    (h5 : (c.maxLocals == mx && c.exceptionTable.isEmpty && decide (c.maxStack ≤ mostOperands) && decide (meth.sig.returnType = rt) && !meth.locks && decide (parseMethodDescriptor y.desc = some meth.sig)) = true) : (Jvm.Cond.code y bytes mx rt).before a s = true := by
  simp only [Bool.and_eq_true, beq_iff_eq, Bool.not_eq_true', decide_eq_true_eq] at h5
  obtain ⟨⟨⟨⟨⟨g1, g2⟩, g3⟩, g4⟩, g5⟩, g6⟩ := h5
  simp [Cond.before, Cond.holds, Cond.value, h1, h2, h3, h4, g1, g2, g3, g4, g5, g6]
def isCode : Jvm.Cond → Bool
  | .code _ _ _ _ => true
  | _ => false
theorem all_split {L : List Jvm.Cond} {P : Jvm.Cond → Bool} (h1 : L.all (fun c => isCode c || P c) = true) (h2 : ∀ c ∈ L.filter isCode, P c = true) : L.all P = true := by
  refine List.all_eq_true.mpr fun c hc => ?_
  have h := List.all_eq_true.mp h1 c hc
  rcases Bool.eq_false_or_eq_true (isCode c) with hi | hi
  · exact h2 c (List.mem_filter.mpr ⟨hc, hi⟩)
  · simpa [hi] using h
set_option maxRecDepth 65536 in
theorem w_c0 : (Jvm.Cond.code x code maxLocals ret).before args0 about1 = true := code_word (m := ⟨1, 1⟩) (meth := k1m1) (c := k1c1) (by decide +kernel) rfl rfl rfl (by decide +kernel)
set_option maxRecDepth 65536 in
theorem w_c1 : (Jvm.Cond.code ({ cls := "com/example/orderly_commit/orderlycommit/jdbc/StatementKindWeightierPinLaw", name := "kindOf", desc := "(I)Lcom/example/orderly_commit/orderlycommit/jdbc/StatementKind;" } : Jvm.MethodName) method_3_code (1 : Nat) (Option.some (Jvm.ClassFile.FieldType.object "com/example/orderly_commit/orderlycommit/jdbc/StatementKind"))).before args0 about1 = true := code_word (m := ⟨1, 2⟩) (meth := k1m2) (c := k1c2) (by decide +kernel) rfl rfl rfl (by decide +kernel)
set_option maxRecDepth 65536 in
theorem w_c2 : (Jvm.Cond.code ({ cls := "com/example/orderly_commit/orderlycommit/jdbc/StatementKind", name := "weightier", desc := "(Lcom/example/orderly_commit/orderlycommit/jdbc/StatementKind;Lcom/example/orderly_commit/orderlycommit/jdbc/StatementKind;)Lcom/example/orderly_commit/orderlycommit/jdbc/StatementKind;" } : Jvm.MethodName) prog_33_method_5_code (2 : Nat) (Option.some (Jvm.ClassFile.FieldType.object "com/example/orderly_commit/orderlycommit/jdbc/StatementKind"))).before args0 about1 = true := code_word (m := ⟨6, 0⟩) (meth := k6m0) (c := k6c0) (by decide +kernel) rfl rfl rfl (by decide +kernel)
set_option maxRecDepth 65536 in
theorem w_c3 : (Jvm.Cond.code ({ cls := "java/lang/Enum", name := "compareTo", desc := "(Ljava/lang/Enum;)I" } : Jvm.MethodName) jdk_37_method_8_code (4 : Nat) (Option.some Jvm.ClassFile.FieldType.int)).before args0 about1 = true := code_word (m := ⟨5, 0⟩) (meth := k5m0) (c := k5c0) (by decide +kernel) rfl rfl rfl (by decide +kernel)
set_option maxRecDepth 65536 in
theorem w_c4 : (Jvm.Cond.code ({ cls := "java/lang/Math", name := "max", desc := "(II)I" } : Jvm.MethodName) jdk_29_method_65_code (2 : Nat) (Option.some Jvm.ClassFile.FieldType.int)).before args0 about1 = true := code_word (m := ⟨7, 1⟩) (meth := k7m1) (c := k7c1) (by decide +kernel) rfl rfl rfl (by decide +kernel)
def codes1 : List Jvm.Cond := [Jvm.Cond.code x code maxLocals ret, Jvm.Cond.code ({ cls := "com/example/orderly_commit/orderlycommit/jdbc/StatementKindWeightierPinLaw", name := "kindOf", desc := "(I)Lcom/example/orderly_commit/orderlycommit/jdbc/StatementKind;" } : Jvm.MethodName) method_3_code (1 : Nat) (Option.some (Jvm.ClassFile.FieldType.object "com/example/orderly_commit/orderlycommit/jdbc/StatementKind")), Jvm.Cond.code ({ cls := "com/example/orderly_commit/orderlycommit/jdbc/StatementKind", name := "weightier", desc := "(Lcom/example/orderly_commit/orderlycommit/jdbc/StatementKind;Lcom/example/orderly_commit/orderlycommit/jdbc/StatementKind;)Lcom/example/orderly_commit/orderlycommit/jdbc/StatementKind;" } : Jvm.MethodName) prog_33_method_5_code (2 : Nat) (Option.some (Jvm.ClassFile.FieldType.object "com/example/orderly_commit/orderlycommit/jdbc/StatementKind")), Jvm.Cond.code ({ cls := "java/lang/Enum", name := "compareTo", desc := "(Ljava/lang/Enum;)I" } : Jvm.MethodName) jdk_37_method_8_code (4 : Nat) (Option.some Jvm.ClassFile.FieldType.int), Jvm.Cond.code ({ cls := "java/lang/Math", name := "max", desc := "(II)I" } : Jvm.MethodName) jdk_29_method_65_code (2 : Nat) (Option.some Jvm.ClassFile.FieldType.int)]
set_option maxRecDepth 65536 in
theorem codes_eq : words1.filter isCode = codes1 := rfl
theorem w_codes : ∀ c ∈ words1.filter isCode, c.before args0 about1 = true := by
  rw [codes_eq]
  intro c hc
  simp only [codes1, List.mem_cons, List.not_mem_nil, or_false] at hc
  rcases hc with rfl | rfl | rfl | rfl | rfl
  · exact w_c0
  · exact w_c1
  · exact w_c2
  · exact w_c3
  · exact w_c4
set_option maxRecDepth 65536 in
theorem w_t1 : (words1.take 24).all (fun c => isCode c || c.before args0 about1) = true := by decide +kernel
set_option maxRecDepth 65536 in
theorem w_t2 : (words1.drop 24).all (fun c => isCode c || c.before args0 about1) = true := by decide +kernel
theorem w_tables : (allAtoms (Jvm.Cond.code x code maxLocals ret :: tables_1)).before args0 about1 = true := by
  rw [allAtoms_all]
  show words1.all (fun c => c.before args0 about1) = true
  refine all_split ?_ w_codes
  rw [← List.take_append_drop 24 words1, List.all_append, w_t1, w_t2]
  rfl
set_option maxRecDepth 65536 in
theorem w_case : (Jvm.Cond.and given_1 narrow_1).before args0 about1 = true := by decide +kernel
theorem w_applies : (headSpec (Jvm.Cond.code x code maxLocals ret :: tables_1) room_1).applies x e0.platform about1 = true :=
  (Spec.applies_iff w_frames).mpr ⟨w_running, w_runnable, w_alone, w_named, w_hears, w_ripe, w_room, w_tables⟩
theorem atStart : AtStart classFile x code maxLocals ret World_1 tables_1 room_1 Calls_1 rest_1 Pre_1 launch0 p0 e0 about1 theMethod args0 below0 :=
  ⟨lists_1, trivial, launch0.admits_env _ _ _, launch0.least_env, fairChoices_fair.cas, fairChoices_fair.clock, w_frames, w_args, w_heap, w_applies, ⟨⟨6, k6, 4, by decide +kernel, rfl, rfl, _, rfl, rfl⟩, trivial⟩, trivial, w_case⟩
end start1
theorem witness_1 : WitnessClaimed_1 := ⟨start1.p0, start1.e0, start1.about1, start1.theMethod, start1.args0, start1.below0, start1.atStart⟩
end Jvm.Pilot.@@N@@
