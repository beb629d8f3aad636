import JvmDerived
import JvmDerived.Pilot.@@N@@Statement
import JvmDerived.Pilot.@@N@@Code
set_option linter.unusedVariables false
set_option linter.unusedSimpArgs false
namespace Jvm.Pilot.@@N@@
open Jvm Jvm.ClassFile Sem Op Lib Jvm.Free Jvm.Stand Jvm.LawKit Jvm.RoadKit Bundle Jvm.Pilot.@@N@@.Jvm.D
def own_End (p : Program) (e : Env) (below : List Frame) (G : Outcome → State → Prop) (T : State) : Prop := ∃ s₂ o, Steps p.tables e below T s₂ ∧ s₂.status = .running ∧ Ended s₂ below o ∧ G o s₂
theorem own_by {p : Program} {e : Env} {below : List Frame} {G : Outcome → State → Prop} {T T' : State} (h : ∀ t, Steps p.tables e below T' t → Steps p.tables e below T t) (k : own_End p e below G T') : own_End p e below G T := by
  obtain ⟨s₂, o, h1, h2⟩ := k
  exact ⟨s₂, o, h _ h1, h2⟩
abbrev own_Met (l : Launch) (Z : State) (y : MethodName) (bytes : ByteArray) (maxL : Nat) (rt : Option FieldType) (ws : List Jvm.Cond) (rm : Room) (as' : Array Value) (h0 : Heap) (Q : Option Value → Heap → List Loc → Prop) : Prop :=
  MetFree l y (head1 (Jvm.Cond.code y bytes maxL rt :: ws) rm) (fun a U => a = as' ∧ Z.Warmed39 U.vm ∧ U.heap = h0) (fun _ _ _ _ _ => True) (fun _ U o U' => ∃ v L, o = .returned v ∧ Q v U'.heap L ∧ FrameEnd U o U' L rm.cells rm.slots)
theorem own_back {p : Program} {l : Launch} {e : Env} {R : Room} {s Z : State} {args a0 : Array Value} {below : List Frame} {h : Heap} {y : MethodName} {bytes : ByteArray} {maxL : Nat} {rt : Option FieldType} {rm : Room} {len W : Nat} {as' : Array Value} {Q : Option Value → Heap → List Loc → Prop}
    (hM : own_Met l Z y bytes maxL rt [] rm as' h Q) (hZ : Z.Warmed39 s.vm) (wc : (Cond.code y bytes maxL rt).before a0 Z = true) (wz : (Cond.initialized y.cls).before a0 Z = true) (hf : rm.frames + 1 ≤ R.frames) (hl : W + (maxL + 11) + rm.locals ≤ R.locals) :
    Back l R p e below s args y len W (fun A a => a = as' ∧ A.U.heap = h ∧ A.cells + rm.cells ≤ R.cells ∧ A.slots + rm.slots ≤ R.slots) (fun A _ v B => ∃ L, Q v B.U.heap L ∧ B.locs = A.locs ++ L ∧ B.cells = A.cells + rm.cells ∧ B.slots = A.slots + rm.slots) :=
  backOf (Q := Q) hM hZ wc wz hf hl
theorem own_intEq {t : Term} {k : Int32} {args : Array Value} {s : State} (h : (Cond.eq t (Term.int k)).value args s none s [] = some true) : t.eval args s none [] s = some (.int k) := by
  simp only [Cond.value, Term.eval] at h
  cases ht : t.eval args s none [] s with
  | none => simp [ht] at h
  | some x => cases x <;> simp [ht] at h ⊢; exact h
theorem own_mod (k d : Int32) (D : Int) (hd : d.toInt = D) (hD : 0 < D) : 0 ≤ ((k &&& (2147483647 : Int32)) % d).toInt ∧ ((k &&& (2147483647 : Int32)) % d).toInt < D := by
  have h1 : (k &&& (2147483647 : Int32)).toInt = k.toInt % (2 ^ 31 : Nat) := c_mask k (2147483647 : Int32) 31 (by decide) (by decide)
  have h2 := (c_irem (k &&& (2147483647 : Int32)) d D hd).1 (by rw [h1]; omega)
  rw [h2]; exact ⟨Int.emod_nonneg _ (by omega), Int.emod_lt_of_pos _ hD⟩
theorem own_ext {a b c : Heap} (O : Ext a b) (E : Ext b c) : Ext a c := ⟨Nat.le_trans O.1 E.1, fun x q r => E.2 x q (O.2 x q r)⟩
theorem own_extW {b h h' : Heap} {a : Addr} {sl : Nat} {v : Value} (O : Ext b h) (W : Wr h h' a sl v) (q : b.size ≤ a) : Ext b h' :=
  ⟨Nat.le_trans O.1 (Keep.of_wr W).1, fun x c r => (Keep.of_wr W).2.1 x c (O.2 x c r) (ninS (Nat.ne_of_lt (Nat.lt_of_lt_of_le (Array.getElem?_eq_some_iff.mp r).1 q)) nin0)⟩
theorem own_stR {p : Program} {l : Launch} {e : Env} {R : Room} {s : State} {m : MethodId} {args : Array Value} {below : List Frame} {meth : Method} {c : Code} {T : State} {locs : List Loc} {cells slots : Nat} {Z : State} {h : Heap}
    (X : Stand p l e R s m args below meth c T locs cells slots) (hx : p.tables.exec = Jvm.exec) (hZ : Z.Warmed39 s.vm) (eT : T.heap = h) {a y : Addr} {k : ClassId} {C : String} {z : Int32} {vs : List Value} (F : Arv Z h a k (.object C) z vs .null) (Ov : Ovr Z k C) (E : Exa Z h y C)
    {j : Int32} (i : Nat) (hj : j.toNatClampNeg = i) (hjn : ¬ j < 0 ∧ j < z) (hi : i < vs.length) {g : JFrame} (hg : g.method = m) {rest : List Value} (hs : g.stack = .ref y :: .int j :: .ref a :: rest) (hd : decode c.code g.pc = .ok (.aastore, 1)) :
    ∃ T' h', Stand p l e R s m args below meth c T' (locs ++ [⟨a, j.toNatClampNeg⟩]) cells slots ∧ T'.heap = h' ∧ Wr h h' a j.toNatClampNeg (.ref y) ∧ Arv Z h' a k (.object C) z (vs.set i (.ref y)) .null ∧
      ∀ target, Steps p.tables e below (T'.setTop { g with pc := g.pc + 1, stack := rest }) target → Steps p.tables e below (T.setTop g) target := by
  obtain ⟨cl, Ar, q1, S, N, H, G⟩ := F
  obtain ⟨T', h', X', e', W, st⟩ := stR X hx hZ eT Ar (inb_of S hjn) rfl (Sto.ofV Ar q1 Ov (Ins.self E)) hg hs hd
  exact ⟨T', h', X', e', W, Arv.set Ar q1 S N H G rfl W i hj hi, st⟩
theorem own_of14 (k : Int32) : (k &&& (2147483647 : Int32)) % (14 : Int32) = (0 : Int32) ∨ (k &&& (2147483647 : Int32)) % (14 : Int32) = (1 : Int32) ∨ (k &&& (2147483647 : Int32)) % (14 : Int32) = (2 : Int32) ∨ (k &&& (2147483647 : Int32)) % (14 : Int32) = (3 : Int32) ∨ (k &&& (2147483647 : Int32)) % (14 : Int32) = (4 : Int32) ∨ (k &&& (2147483647 : Int32)) % (14 : Int32) = (5 : Int32) ∨ (k &&& (2147483647 : Int32)) % (14 : Int32) = (6 : Int32) ∨ (k &&& (2147483647 : Int32)) % (14 : Int32) = (7 : Int32) ∨ (k &&& (2147483647 : Int32)) % (14 : Int32) = (8 : Int32) ∨ (k &&& (2147483647 : Int32)) % (14 : Int32) = (9 : Int32) ∨ (k &&& (2147483647 : Int32)) % (14 : Int32) = (10 : Int32) ∨ (k &&& (2147483647 : Int32)) % (14 : Int32) = (11 : Int32) ∨ (k &&& (2147483647 : Int32)) % (14 : Int32) = (12 : Int32) ∨ (k &&& (2147483647 : Int32)) % (14 : Int32) = (13 : Int32) := by
  have h := own_mod k 14 14 rfl (by decide)
  simp only [← Int32.toInt_inj]
  have a0 : (0 : Int32).toInt = 0 := rfl
  have a1 : (1 : Int32).toInt = 1 := rfl
  have a2 : (2 : Int32).toInt = 2 := rfl
  have a3 : (3 : Int32).toInt = 3 := rfl
  have a4 : (4 : Int32).toInt = 4 := rfl
  have a5 : (5 : Int32).toInt = 5 := rfl
  have a6 : (6 : Int32).toInt = 6 := rfl
  have a7 : (7 : Int32).toInt = 7 := rfl
  have a8 : (8 : Int32).toInt = 8 := rfl
  have a9 : (9 : Int32).toInt = 9 := rfl
  have a10 : (10 : Int32).toInt = 10 := rfl
  have a11 : (11 : Int32).toInt = 11 := rfl
  have a12 : (12 : Int32).toInt = 12 := rfl
  have a13 : (13 : Int32).toInt = 13 := rfl
  omega
theorem own_d_prog_57_method_6_0 : decode prog_57_method_6_code 0 = .ok (.aload_n 0, 1) := by decide +kernel
theorem own_d_prog_57_method_6_1 : decode prog_57_method_6_code 1 = .ok (.getstatic 34, 3) := by decide +kernel
theorem own_d_prog_57_method_6_4 : decode prog_57_method_6_code 4 = .ok (.if_acmp .eq 28, 3) := by decide +kernel
theorem own_d_prog_57_method_6_7 : decode prog_57_method_6_code 7 = .ok (.aload_n 0, 1) := by decide +kernel
theorem own_d_prog_57_method_6_8 : decode prog_57_method_6_code 8 = .ok (.getstatic 37, 3) := by decide +kernel
theorem own_d_prog_57_method_6_11 : decode prog_57_method_6_code 11 = .ok (.if_acmp .eq 21, 3) := by decide +kernel
theorem own_d_prog_57_method_6_14 : decode prog_57_method_6_code 14 = .ok (.aload_n 0, 1) := by decide +kernel
theorem own_d_prog_57_method_6_15 : decode prog_57_method_6_code 15 = .ok (.getstatic 40, 3) := by decide +kernel
theorem own_d_prog_57_method_6_18 : decode prog_57_method_6_code 18 = .ok (.if_acmp .eq 14, 3) := by decide +kernel
theorem own_d_prog_57_method_6_21 : decode prog_57_method_6_code 21 = .ok (.aload_n 0, 1) := by decide +kernel
theorem own_d_prog_57_method_6_22 : decode prog_57_method_6_code 22 = .ok (.getstatic 43, 3) := by decide +kernel
theorem own_d_prog_57_method_6_25 : decode prog_57_method_6_code 25 = .ok (.if_acmp .eq 7, 3) := by decide +kernel
theorem own_d_prog_57_method_6_28 : decode prog_57_method_6_code 28 = .ok (.iconst 1, 1) := by decide +kernel
theorem own_d_prog_57_method_6_29 : decode prog_57_method_6_code 29 = .ok (.goto 4, 3) := by decide +kernel
theorem own_d_prog_57_method_6_32 : decode prog_57_method_6_code 32 = .ok (.iconst 0, 1) := by decide +kernel
theorem own_d_prog_57_method_6_33 : decode prog_57_method_6_code 33 = .ok (.ireturn, 1) := by decide +kernel
theorem own_pd0 : parseMethodDescriptor "()Z" = some ⟨[], some .boolean⟩ := by decide +kernel
theorem own_pn0 : plainName "com/example/tyche/tyche/lang/FilterExpression$Operator" = true := by first | (simp [plainName, overriddenIn]; done) | decide +kernel
theorem own_pn1 : plainName "com/example/tyche/tyche/lang/OperatorCombinesPinLaw" = true := by first | (simp [plainName, overriddenIn]; done) | decide +kernel
set_option maxRecDepth 65536 in
set_option maxHeartbeats 40000000 in
theorem own_comb10 (l : Launch) (Z : State) (a0 : Array Value) (hw : ∀ d ∈ tables_1, d.before a0 Z = true) (ws : List Jvm.Cond) (u10 u11 u12 u13 : Addr) (h0 : Heap) (n0 : Nat) (O : Ext Z.heap h0) (S_u10 : Sta Z Z.heap "com/example/tyche/tyche/lang/FilterExpression$Operator" "ARGMIN" "Lcom/example/tyche/tyche/lang/FilterExpression$Operator;" (.ref u10)) (S_u11 : Sta Z Z.heap "com/example/tyche/tyche/lang/FilterExpression$Operator" "ARGMAX" "Lcom/example/tyche/tyche/lang/FilterExpression$Operator;" (.ref u11)) (S_u12 : Sta Z Z.heap "com/example/tyche/tyche/lang/FilterExpression$Operator" "PRINT" "Lcom/example/tyche/tyche/lang/FilterExpression$Operator;" (.ref u12)) (S_u13 : Sta Z Z.heap "com/example/tyche/tyche/lang/FilterExpression$Operator" "PRINTALL" "Lcom/example/tyche/tyche/lang/FilterExpression$Operator;" (.ref u13)) :
    own_Met l Z (⟨"com/example/tyche/tyche/lang/FilterExpression$Operator", "combines", "()Z"⟩ : MethodName) prog_57_method_6_code 1 (some .boolean) ws ({ frames := 0, cells := 0, slots := 0, locals := 0 } : Room) #[(.ref u10)] h0 (fun v h L => v = some (.int 0) ∧ Fr n0 L ∧ h = h0) := by
  refine MetFree.of_bodySF (plainFor_of_name own_pn0) hisR ?_
  intro p e s m args below meth c s₁ Bd hml0 hP hK
  obtain ⟨rfl, hZ, hh⟩ := hP
  have hx := Bd.exec
  have hby := Bd.bytes
  have hml : c.maxLocals = 1 := hml0
  have hown : s.vm.findClass "com/example/tyche/tyche/lang/FilterExpression$Operator" = some m.cls := findClass_of_methodNamed Bd.named
  have hnm := (name_of_methodNamed Bd.named Bd.method).1
  have X0 : Stand p l e ({ frames := 0, cells := 0, slots := 0, locals := 0 } : Room) s m #[(.ref u10)] below meth c s₁ [] 0 0 := Stand.of_body Bd
  have e0 : s₁.heap = h0 := by rw [← hh, Bd.state]; rfl
  have N0 := Fr.nil n0
  have ef : entryFrame m #[(.ref u10)] 1 = mkF m 0 #[.val (.ref u10)] [] := by first | (simp [entryFrame, mkF, argsToLocals, Value.category, maxLocals]; done) | rfl
  show own_End p e below _ (s₁.setTop (entryFrame m #[(.ref u10)] 1))
  refine own_by (fun _ k => castTop ef k) ?_
  show own_End p e below _ (s₁.setTop (mkF m 0 #[.val (.ref u10)] []))
  refine own_by (fun _ k => XS.aloadN X0.here hx rfl (hb hby own_d_prog_57_method_6_0) rfl rfl k) ?_
  show own_End p e below _ (s₁.setTop (mkF m 1 #[.val (.ref u10)] [(.ref u10)]))
  obtain ⟨T1, X1, e1, st1⟩ := getS2 X0 hx hZ hown (host := "") (Or.inl (hw _ (List.mem_of_getElem? (i := 38) rfl))) Via.refl e0 (S_u10.ext O) (g := (mkF m 1 #[.val (.ref u10)] [(.ref u10)])) rfl (hb hby own_d_prog_57_method_6_1)
  refine own_by st1 ?_
  show own_End p e below _ (T1.setTop (mkF m 4 #[.val (.ref u10)] [(.ref u10), (.ref u10)]))
  refine own_by (fun _ k => Jvm.RoadKit.acmp (g := (mkF m 4 #[.val (.ref u10)] [(.ref u10), (.ref u10)])) X1 hx rfl rfl rfl (pc0 := 4) (pc' := 32) (same := true) rfl (hb hby own_d_prog_57_method_6_4) rfl (decide_eq_true rfl) (by decide) (by decide) k) ?_
  show own_End p e below _ (T1.setTop (mkF m 32 #[.val (.ref u10)] []))
  refine own_by (fun _ k => XS.iconst X1.here hx rfl (hb hby own_d_prog_57_method_6_32) k) ?_
  show own_End p e below _ (T1.setTop (mkF m 33 #[.val (.ref u10)] [(.int (0 : Int32))]))
  obtain ⟨fs, hr, hrun, hended, hW, hsame⟩ := X1.leave (v := (some (.int (0 : Int32)))) (fun h => by rw [Bd.returns] at h; cases h)
  refine ⟨_, _, retN X1 hx (t := .boolean) Bd.returns (by simp) (hb hby own_d_prog_57_method_6_33) hr, hrun, hended, _, _, rfl, ?_, ⟨_, rfl⟩, hW, hsame.mono (by decide) (by decide)⟩
  exact ⟨rfl, N0, e1⟩
set_option maxRecDepth 65536 in
set_option maxHeartbeats 40000000 in
theorem own_comb11 (l : Launch) (Z : State) (a0 : Array Value) (hw : ∀ d ∈ tables_1, d.before a0 Z = true) (ws : List Jvm.Cond) (u10 u11 u12 u13 : Addr) (h0 : Heap) (n0 : Nat) (O : Ext Z.heap h0) (S_u10 : Sta Z Z.heap "com/example/tyche/tyche/lang/FilterExpression$Operator" "ARGMIN" "Lcom/example/tyche/tyche/lang/FilterExpression$Operator;" (.ref u10)) (S_u11 : Sta Z Z.heap "com/example/tyche/tyche/lang/FilterExpression$Operator" "ARGMAX" "Lcom/example/tyche/tyche/lang/FilterExpression$Operator;" (.ref u11)) (S_u12 : Sta Z Z.heap "com/example/tyche/tyche/lang/FilterExpression$Operator" "PRINT" "Lcom/example/tyche/tyche/lang/FilterExpression$Operator;" (.ref u12)) (S_u13 : Sta Z Z.heap "com/example/tyche/tyche/lang/FilterExpression$Operator" "PRINTALL" "Lcom/example/tyche/tyche/lang/FilterExpression$Operator;" (.ref u13)) (hn10 : ¬ (u11 = u10)) :
    own_Met l Z (⟨"com/example/tyche/tyche/lang/FilterExpression$Operator", "combines", "()Z"⟩ : MethodName) prog_57_method_6_code 1 (some .boolean) ws ({ frames := 0, cells := 0, slots := 0, locals := 0 } : Room) #[(.ref u11)] h0 (fun v h L => v = some (.int 0) ∧ Fr n0 L ∧ h = h0) := by
  refine MetFree.of_bodySF (plainFor_of_name own_pn0) hisR ?_
  intro p e s m args below meth c s₁ Bd hml0 hP hK
  obtain ⟨rfl, hZ, hh⟩ := hP
  have hx := Bd.exec
  have hby := Bd.bytes
  have hml : c.maxLocals = 1 := hml0
  have hown : s.vm.findClass "com/example/tyche/tyche/lang/FilterExpression$Operator" = some m.cls := findClass_of_methodNamed Bd.named
  have hnm := (name_of_methodNamed Bd.named Bd.method).1
  have X0 : Stand p l e ({ frames := 0, cells := 0, slots := 0, locals := 0 } : Room) s m #[(.ref u11)] below meth c s₁ [] 0 0 := Stand.of_body Bd
  have e0 : s₁.heap = h0 := by rw [← hh, Bd.state]; rfl
  have N0 := Fr.nil n0
  have ef : entryFrame m #[(.ref u11)] 1 = mkF m 0 #[.val (.ref u11)] [] := by first | (simp [entryFrame, mkF, argsToLocals, Value.category, maxLocals]; done) | rfl
  show own_End p e below _ (s₁.setTop (entryFrame m #[(.ref u11)] 1))
  refine own_by (fun _ k => castTop ef k) ?_
  show own_End p e below _ (s₁.setTop (mkF m 0 #[.val (.ref u11)] []))
  refine own_by (fun _ k => XS.aloadN X0.here hx rfl (hb hby own_d_prog_57_method_6_0) rfl rfl k) ?_
  show own_End p e below _ (s₁.setTop (mkF m 1 #[.val (.ref u11)] [(.ref u11)]))
  obtain ⟨T2, X2, e2, st2⟩ := getS2 X0 hx hZ hown (host := "") (Or.inl (hw _ (List.mem_of_getElem? (i := 38) rfl))) Via.refl e0 (S_u10.ext O) (g := (mkF m 1 #[.val (.ref u11)] [(.ref u11)])) rfl (hb hby own_d_prog_57_method_6_1)
  refine own_by st2 ?_
  show own_End p e below _ (T2.setTop (mkF m 4 #[.val (.ref u11)] [(.ref u10), (.ref u11)]))
  refine own_by (fun _ k => Jvm.RoadKit.acmp (g := (mkF m 4 #[.val (.ref u11)] [(.ref u10), (.ref u11)])) X2 hx rfl rfl rfl (pc0 := 4) (pc' := 7) (same := false) rfl (hb hby own_d_prog_57_method_6_4) rfl (decide_eq_false fun q => hn10 (Value.ref.inj q)) (by decide) (by decide) k) ?_
  show own_End p e below _ (T2.setTop (mkF m 7 #[.val (.ref u11)] []))
  refine own_by (fun _ k => XS.aloadN X2.here hx rfl (hb hby own_d_prog_57_method_6_7) rfl rfl k) ?_
  show own_End p e below _ (T2.setTop (mkF m 8 #[.val (.ref u11)] [(.ref u11)]))
  obtain ⟨T3, X3, e3, st3⟩ := getS2 X2 hx hZ hown (host := "") (Or.inl (hw _ (List.mem_of_getElem? (i := 39) rfl))) Via.refl e2 (S_u11.ext O) (g := (mkF m 8 #[.val (.ref u11)] [(.ref u11)])) rfl (hb hby own_d_prog_57_method_6_8)
  refine own_by st3 ?_
  show own_End p e below _ (T3.setTop (mkF m 11 #[.val (.ref u11)] [(.ref u11), (.ref u11)]))
  refine own_by (fun _ k => Jvm.RoadKit.acmp (g := (mkF m 11 #[.val (.ref u11)] [(.ref u11), (.ref u11)])) X3 hx rfl rfl rfl (pc0 := 11) (pc' := 32) (same := true) rfl (hb hby own_d_prog_57_method_6_11) rfl (decide_eq_true rfl) (by decide) (by decide) k) ?_
  show own_End p e below _ (T3.setTop (mkF m 32 #[.val (.ref u11)] []))
  refine own_by (fun _ k => XS.iconst X3.here hx rfl (hb hby own_d_prog_57_method_6_32) k) ?_
  show own_End p e below _ (T3.setTop (mkF m 33 #[.val (.ref u11)] [(.int (0 : Int32))]))
  obtain ⟨fs, hr, hrun, hended, hW, hsame⟩ := X3.leave (v := (some (.int (0 : Int32)))) (fun h => by rw [Bd.returns] at h; cases h)
  refine ⟨_, _, retN X3 hx (t := .boolean) Bd.returns (by simp) (hb hby own_d_prog_57_method_6_33) hr, hrun, hended, _, _, rfl, ?_, ⟨_, rfl⟩, hW, hsame.mono (by decide) (by decide)⟩
  exact ⟨rfl, N0, e3⟩
set_option maxRecDepth 65536 in
set_option maxHeartbeats 40000000 in
theorem own_comb12 (l : Launch) (Z : State) (a0 : Array Value) (hw : ∀ d ∈ tables_1, d.before a0 Z = true) (ws : List Jvm.Cond) (u10 u11 u12 u13 : Addr) (h0 : Heap) (n0 : Nat) (O : Ext Z.heap h0) (S_u10 : Sta Z Z.heap "com/example/tyche/tyche/lang/FilterExpression$Operator" "ARGMIN" "Lcom/example/tyche/tyche/lang/FilterExpression$Operator;" (.ref u10)) (S_u11 : Sta Z Z.heap "com/example/tyche/tyche/lang/FilterExpression$Operator" "ARGMAX" "Lcom/example/tyche/tyche/lang/FilterExpression$Operator;" (.ref u11)) (S_u12 : Sta Z Z.heap "com/example/tyche/tyche/lang/FilterExpression$Operator" "PRINT" "Lcom/example/tyche/tyche/lang/FilterExpression$Operator;" (.ref u12)) (S_u13 : Sta Z Z.heap "com/example/tyche/tyche/lang/FilterExpression$Operator" "PRINTALL" "Lcom/example/tyche/tyche/lang/FilterExpression$Operator;" (.ref u13)) (hn10 : ¬ (u12 = u10)) (hn11 : ¬ (u12 = u11)) :
    own_Met l Z (⟨"com/example/tyche/tyche/lang/FilterExpression$Operator", "combines", "()Z"⟩ : MethodName) prog_57_method_6_code 1 (some .boolean) ws ({ frames := 0, cells := 0, slots := 0, locals := 0 } : Room) #[(.ref u12)] h0 (fun v h L => v = some (.int 0) ∧ Fr n0 L ∧ h = h0) := by
  refine MetFree.of_bodySF (plainFor_of_name own_pn0) hisR ?_
  intro p e s m args below meth c s₁ Bd hml0 hP hK
  obtain ⟨rfl, hZ, hh⟩ := hP
  have hx := Bd.exec
  have hby := Bd.bytes
  have hml : c.maxLocals = 1 := hml0
  have hown : s.vm.findClass "com/example/tyche/tyche/lang/FilterExpression$Operator" = some m.cls := findClass_of_methodNamed Bd.named
  have hnm := (name_of_methodNamed Bd.named Bd.method).1
  have X0 : Stand p l e ({ frames := 0, cells := 0, slots := 0, locals := 0 } : Room) s m #[(.ref u12)] below meth c s₁ [] 0 0 := Stand.of_body Bd
  have e0 : s₁.heap = h0 := by rw [← hh, Bd.state]; rfl
  have N0 := Fr.nil n0
  have ef : entryFrame m #[(.ref u12)] 1 = mkF m 0 #[.val (.ref u12)] [] := by first | (simp [entryFrame, mkF, argsToLocals, Value.category, maxLocals]; done) | rfl
  show own_End p e below _ (s₁.setTop (entryFrame m #[(.ref u12)] 1))
  refine own_by (fun _ k => castTop ef k) ?_
  show own_End p e below _ (s₁.setTop (mkF m 0 #[.val (.ref u12)] []))
  refine own_by (fun _ k => XS.aloadN X0.here hx rfl (hb hby own_d_prog_57_method_6_0) rfl rfl k) ?_
  show own_End p e below _ (s₁.setTop (mkF m 1 #[.val (.ref u12)] [(.ref u12)]))
  obtain ⟨T4, X4, e4, st4⟩ := getS2 X0 hx hZ hown (host := "") (Or.inl (hw _ (List.mem_of_getElem? (i := 38) rfl))) Via.refl e0 (S_u10.ext O) (g := (mkF m 1 #[.val (.ref u12)] [(.ref u12)])) rfl (hb hby own_d_prog_57_method_6_1)
  refine own_by st4 ?_
  show own_End p e below _ (T4.setTop (mkF m 4 #[.val (.ref u12)] [(.ref u10), (.ref u12)]))
  refine own_by (fun _ k => Jvm.RoadKit.acmp (g := (mkF m 4 #[.val (.ref u12)] [(.ref u10), (.ref u12)])) X4 hx rfl rfl rfl (pc0 := 4) (pc' := 7) (same := false) rfl (hb hby own_d_prog_57_method_6_4) rfl (decide_eq_false fun q => hn10 (Value.ref.inj q)) (by decide) (by decide) k) ?_
  show own_End p e below _ (T4.setTop (mkF m 7 #[.val (.ref u12)] []))
  refine own_by (fun _ k => XS.aloadN X4.here hx rfl (hb hby own_d_prog_57_method_6_7) rfl rfl k) ?_
  show own_End p e below _ (T4.setTop (mkF m 8 #[.val (.ref u12)] [(.ref u12)]))
  obtain ⟨T5, X5, e5, st5⟩ := getS2 X4 hx hZ hown (host := "") (Or.inl (hw _ (List.mem_of_getElem? (i := 39) rfl))) Via.refl e4 (S_u11.ext O) (g := (mkF m 8 #[.val (.ref u12)] [(.ref u12)])) rfl (hb hby own_d_prog_57_method_6_8)
  refine own_by st5 ?_
  show own_End p e below _ (T5.setTop (mkF m 11 #[.val (.ref u12)] [(.ref u11), (.ref u12)]))
  refine own_by (fun _ k => Jvm.RoadKit.acmp (g := (mkF m 11 #[.val (.ref u12)] [(.ref u11), (.ref u12)])) X5 hx rfl rfl rfl (pc0 := 11) (pc' := 14) (same := false) rfl (hb hby own_d_prog_57_method_6_11) rfl (decide_eq_false fun q => hn11 (Value.ref.inj q)) (by decide) (by decide) k) ?_
  show own_End p e below _ (T5.setTop (mkF m 14 #[.val (.ref u12)] []))
  refine own_by (fun _ k => XS.aloadN X5.here hx rfl (hb hby own_d_prog_57_method_6_14) rfl rfl k) ?_
  show own_End p e below _ (T5.setTop (mkF m 15 #[.val (.ref u12)] [(.ref u12)]))
  obtain ⟨T6, X6, e6, st6⟩ := getS2 X5 hx hZ hown (host := "") (Or.inl (hw _ (List.mem_of_getElem? (i := 40) rfl))) Via.refl e5 (S_u12.ext O) (g := (mkF m 15 #[.val (.ref u12)] [(.ref u12)])) rfl (hb hby own_d_prog_57_method_6_15)
  refine own_by st6 ?_
  show own_End p e below _ (T6.setTop (mkF m 18 #[.val (.ref u12)] [(.ref u12), (.ref u12)]))
  refine own_by (fun _ k => Jvm.RoadKit.acmp (g := (mkF m 18 #[.val (.ref u12)] [(.ref u12), (.ref u12)])) X6 hx rfl rfl rfl (pc0 := 18) (pc' := 32) (same := true) rfl (hb hby own_d_prog_57_method_6_18) rfl (decide_eq_true rfl) (by decide) (by decide) k) ?_
  show own_End p e below _ (T6.setTop (mkF m 32 #[.val (.ref u12)] []))
  refine own_by (fun _ k => XS.iconst X6.here hx rfl (hb hby own_d_prog_57_method_6_32) k) ?_
  show own_End p e below _ (T6.setTop (mkF m 33 #[.val (.ref u12)] [(.int (0 : Int32))]))
  obtain ⟨fs, hr, hrun, hended, hW, hsame⟩ := X6.leave (v := (some (.int (0 : Int32)))) (fun h => by rw [Bd.returns] at h; cases h)
  refine ⟨_, _, retN X6 hx (t := .boolean) Bd.returns (by simp) (hb hby own_d_prog_57_method_6_33) hr, hrun, hended, _, _, rfl, ?_, ⟨_, rfl⟩, hW, hsame.mono (by decide) (by decide)⟩
  exact ⟨rfl, N0, e6⟩
set_option maxRecDepth 65536 in
set_option maxHeartbeats 40000000 in
theorem own_comb13 (l : Launch) (Z : State) (a0 : Array Value) (hw : ∀ d ∈ tables_1, d.before a0 Z = true) (ws : List Jvm.Cond) (u10 u11 u12 u13 : Addr) (h0 : Heap) (n0 : Nat) (O : Ext Z.heap h0) (S_u10 : Sta Z Z.heap "com/example/tyche/tyche/lang/FilterExpression$Operator" "ARGMIN" "Lcom/example/tyche/tyche/lang/FilterExpression$Operator;" (.ref u10)) (S_u11 : Sta Z Z.heap "com/example/tyche/tyche/lang/FilterExpression$Operator" "ARGMAX" "Lcom/example/tyche/tyche/lang/FilterExpression$Operator;" (.ref u11)) (S_u12 : Sta Z Z.heap "com/example/tyche/tyche/lang/FilterExpression$Operator" "PRINT" "Lcom/example/tyche/tyche/lang/FilterExpression$Operator;" (.ref u12)) (S_u13 : Sta Z Z.heap "com/example/tyche/tyche/lang/FilterExpression$Operator" "PRINTALL" "Lcom/example/tyche/tyche/lang/FilterExpression$Operator;" (.ref u13)) (hn10 : ¬ (u13 = u10)) (hn11 : ¬ (u13 = u11)) (hn12 : ¬ (u13 = u12)) :
    own_Met l Z (⟨"com/example/tyche/tyche/lang/FilterExpression$Operator", "combines", "()Z"⟩ : MethodName) prog_57_method_6_code 1 (some .boolean) ws ({ frames := 0, cells := 0, slots := 0, locals := 0 } : Room) #[(.ref u13)] h0 (fun v h L => v = some (.int 0) ∧ Fr n0 L ∧ h = h0) := by
  refine MetFree.of_bodySF (plainFor_of_name own_pn0) hisR ?_
  intro p e s m args below meth c s₁ Bd hml0 hP hK
  obtain ⟨rfl, hZ, hh⟩ := hP
  have hx := Bd.exec
  have hby := Bd.bytes
  have hml : c.maxLocals = 1 := hml0
  have hown : s.vm.findClass "com/example/tyche/tyche/lang/FilterExpression$Operator" = some m.cls := findClass_of_methodNamed Bd.named
  have hnm := (name_of_methodNamed Bd.named Bd.method).1
  have X0 : Stand p l e ({ frames := 0, cells := 0, slots := 0, locals := 0 } : Room) s m #[(.ref u13)] below meth c s₁ [] 0 0 := Stand.of_body Bd
  have e0 : s₁.heap = h0 := by rw [← hh, Bd.state]; rfl
  have N0 := Fr.nil n0
  have ef : entryFrame m #[(.ref u13)] 1 = mkF m 0 #[.val (.ref u13)] [] := by first | (simp [entryFrame, mkF, argsToLocals, Value.category, maxLocals]; done) | rfl
  show own_End p e below _ (s₁.setTop (entryFrame m #[(.ref u13)] 1))
  refine own_by (fun _ k => castTop ef k) ?_
  show own_End p e below _ (s₁.setTop (mkF m 0 #[.val (.ref u13)] []))
  refine own_by (fun _ k => XS.aloadN X0.here hx rfl (hb hby own_d_prog_57_method_6_0) rfl rfl k) ?_
  show own_End p e below _ (s₁.setTop (mkF m 1 #[.val (.ref u13)] [(.ref u13)]))
  obtain ⟨T7, X7, e7, st7⟩ := getS2 X0 hx hZ hown (host := "") (Or.inl (hw _ (List.mem_of_getElem? (i := 38) rfl))) Via.refl e0 (S_u10.ext O) (g := (mkF m 1 #[.val (.ref u13)] [(.ref u13)])) rfl (hb hby own_d_prog_57_method_6_1)
  refine own_by st7 ?_
  show own_End p e below _ (T7.setTop (mkF m 4 #[.val (.ref u13)] [(.ref u10), (.ref u13)]))
  refine own_by (fun _ k => Jvm.RoadKit.acmp (g := (mkF m 4 #[.val (.ref u13)] [(.ref u10), (.ref u13)])) X7 hx rfl rfl rfl (pc0 := 4) (pc' := 7) (same := false) rfl (hb hby own_d_prog_57_method_6_4) rfl (decide_eq_false fun q => hn10 (Value.ref.inj q)) (by decide) (by decide) k) ?_
  show own_End p e below _ (T7.setTop (mkF m 7 #[.val (.ref u13)] []))
  refine own_by (fun _ k => XS.aloadN X7.here hx rfl (hb hby own_d_prog_57_method_6_7) rfl rfl k) ?_
  show own_End p e below _ (T7.setTop (mkF m 8 #[.val (.ref u13)] [(.ref u13)]))
  obtain ⟨T8, X8, e8, st8⟩ := getS2 X7 hx hZ hown (host := "") (Or.inl (hw _ (List.mem_of_getElem? (i := 39) rfl))) Via.refl e7 (S_u11.ext O) (g := (mkF m 8 #[.val (.ref u13)] [(.ref u13)])) rfl (hb hby own_d_prog_57_method_6_8)
  refine own_by st8 ?_
  show own_End p e below _ (T8.setTop (mkF m 11 #[.val (.ref u13)] [(.ref u11), (.ref u13)]))
  refine own_by (fun _ k => Jvm.RoadKit.acmp (g := (mkF m 11 #[.val (.ref u13)] [(.ref u11), (.ref u13)])) X8 hx rfl rfl rfl (pc0 := 11) (pc' := 14) (same := false) rfl (hb hby own_d_prog_57_method_6_11) rfl (decide_eq_false fun q => hn11 (Value.ref.inj q)) (by decide) (by decide) k) ?_
  show own_End p e below _ (T8.setTop (mkF m 14 #[.val (.ref u13)] []))
  refine own_by (fun _ k => XS.aloadN X8.here hx rfl (hb hby own_d_prog_57_method_6_14) rfl rfl k) ?_
  show own_End p e below _ (T8.setTop (mkF m 15 #[.val (.ref u13)] [(.ref u13)]))
  obtain ⟨T9, X9, e9, st9⟩ := getS2 X8 hx hZ hown (host := "") (Or.inl (hw _ (List.mem_of_getElem? (i := 40) rfl))) Via.refl e8 (S_u12.ext O) (g := (mkF m 15 #[.val (.ref u13)] [(.ref u13)])) rfl (hb hby own_d_prog_57_method_6_15)
  refine own_by st9 ?_
  show own_End p e below _ (T9.setTop (mkF m 18 #[.val (.ref u13)] [(.ref u12), (.ref u13)]))
  refine own_by (fun _ k => Jvm.RoadKit.acmp (g := (mkF m 18 #[.val (.ref u13)] [(.ref u12), (.ref u13)])) X9 hx rfl rfl rfl (pc0 := 18) (pc' := 21) (same := false) rfl (hb hby own_d_prog_57_method_6_18) rfl (decide_eq_false fun q => hn12 (Value.ref.inj q)) (by decide) (by decide) k) ?_
  show own_End p e below _ (T9.setTop (mkF m 21 #[.val (.ref u13)] []))
  refine own_by (fun _ k => XS.aloadN X9.here hx rfl (hb hby own_d_prog_57_method_6_21) rfl rfl k) ?_
  show own_End p e below _ (T9.setTop (mkF m 22 #[.val (.ref u13)] [(.ref u13)]))
  obtain ⟨T10, X10, e10, st10⟩ := getS2 X9 hx hZ hown (host := "") (Or.inl (hw _ (List.mem_of_getElem? (i := 41) rfl))) Via.refl e9 (S_u13.ext O) (g := (mkF m 22 #[.val (.ref u13)] [(.ref u13)])) rfl (hb hby own_d_prog_57_method_6_22)
  refine own_by st10 ?_
  show own_End p e below _ (T10.setTop (mkF m 25 #[.val (.ref u13)] [(.ref u13), (.ref u13)]))
  refine own_by (fun _ k => Jvm.RoadKit.acmp (g := (mkF m 25 #[.val (.ref u13)] [(.ref u13), (.ref u13)])) X10 hx rfl rfl rfl (pc0 := 25) (pc' := 32) (same := true) rfl (hb hby own_d_prog_57_method_6_25) rfl (decide_eq_true rfl) (by decide) (by decide) k) ?_
  show own_End p e below _ (T10.setTop (mkF m 32 #[.val (.ref u13)] []))
  refine own_by (fun _ k => XS.iconst X10.here hx rfl (hb hby own_d_prog_57_method_6_32) k) ?_
  show own_End p e below _ (T10.setTop (mkF m 33 #[.val (.ref u13)] [(.int (0 : Int32))]))
  obtain ⟨fs, hr, hrun, hended, hW, hsame⟩ := X10.leave (v := (some (.int (0 : Int32)))) (fun h => by rw [Bd.returns] at h; cases h)
  refine ⟨_, _, retN X10 hx (t := .boolean) Bd.returns (by simp) (hb hby own_d_prog_57_method_6_33) hr, hrun, hended, _, _, rfl, ?_, ⟨_, rfl⟩, hW, hsame.mono (by decide) (by decide)⟩
  exact ⟨rfl, N0, e10⟩
set_option maxRecDepth 65536 in
set_option maxHeartbeats 40000000 in
theorem own_combN (l : Launch) (Z : State) (a0 : Array Value) (hw : ∀ d ∈ tables_1, d.before a0 Z = true) (ws : List Jvm.Cond) (a1 u10 u11 u12 u13 : Addr) (h0 : Heap) (n0 : Nat) (O : Ext Z.heap h0) (S_u10 : Sta Z Z.heap "com/example/tyche/tyche/lang/FilterExpression$Operator" "ARGMIN" "Lcom/example/tyche/tyche/lang/FilterExpression$Operator;" (.ref u10)) (S_u11 : Sta Z Z.heap "com/example/tyche/tyche/lang/FilterExpression$Operator" "ARGMAX" "Lcom/example/tyche/tyche/lang/FilterExpression$Operator;" (.ref u11)) (S_u12 : Sta Z Z.heap "com/example/tyche/tyche/lang/FilterExpression$Operator" "PRINT" "Lcom/example/tyche/tyche/lang/FilterExpression$Operator;" (.ref u12)) (S_u13 : Sta Z Z.heap "com/example/tyche/tyche/lang/FilterExpression$Operator" "PRINTALL" "Lcom/example/tyche/tyche/lang/FilterExpression$Operator;" (.ref u13)) (hn10 : ¬ (a1 = u10)) (hn11 : ¬ (a1 = u11)) (hn12 : ¬ (a1 = u12)) (hn13 : ¬ (a1 = u13)) :
    own_Met l Z (⟨"com/example/tyche/tyche/lang/FilterExpression$Operator", "combines", "()Z"⟩ : MethodName) prog_57_method_6_code 1 (some .boolean) ws ({ frames := 0, cells := 0, slots := 0, locals := 0 } : Room) #[(.ref a1)] h0 (fun v h L => v = some (.int 1) ∧ Fr n0 L ∧ h = h0) := by
  refine MetFree.of_bodySF (plainFor_of_name own_pn0) hisR ?_
  intro p e s m args below meth c s₁ Bd hml0 hP hK
  obtain ⟨rfl, hZ, hh⟩ := hP
  have hx := Bd.exec
  have hby := Bd.bytes
  have hml : c.maxLocals = 1 := hml0
  have hown : s.vm.findClass "com/example/tyche/tyche/lang/FilterExpression$Operator" = some m.cls := findClass_of_methodNamed Bd.named
  have hnm := (name_of_methodNamed Bd.named Bd.method).1
  have X0 : Stand p l e ({ frames := 0, cells := 0, slots := 0, locals := 0 } : Room) s m #[(.ref a1)] below meth c s₁ [] 0 0 := Stand.of_body Bd
  have e0 : s₁.heap = h0 := by rw [← hh, Bd.state]; rfl
  have N0 := Fr.nil n0
  have ef : entryFrame m #[(.ref a1)] 1 = mkF m 0 #[.val (.ref a1)] [] := by first | (simp [entryFrame, mkF, argsToLocals, Value.category, maxLocals]; done) | rfl
  show own_End p e below _ (s₁.setTop (entryFrame m #[(.ref a1)] 1))
  refine own_by (fun _ k => castTop ef k) ?_
  show own_End p e below _ (s₁.setTop (mkF m 0 #[.val (.ref a1)] []))
  refine own_by (fun _ k => XS.aloadN X0.here hx rfl (hb hby own_d_prog_57_method_6_0) rfl rfl k) ?_
  show own_End p e below _ (s₁.setTop (mkF m 1 #[.val (.ref a1)] [(.ref a1)]))
  obtain ⟨T11, X11, e11, st11⟩ := getS2 X0 hx hZ hown (host := "") (Or.inl (hw _ (List.mem_of_getElem? (i := 38) rfl))) Via.refl e0 (S_u10.ext O) (g := (mkF m 1 #[.val (.ref a1)] [(.ref a1)])) rfl (hb hby own_d_prog_57_method_6_1)
  refine own_by st11 ?_
  show own_End p e below _ (T11.setTop (mkF m 4 #[.val (.ref a1)] [(.ref u10), (.ref a1)]))
  refine own_by (fun _ k => Jvm.RoadKit.acmp (g := (mkF m 4 #[.val (.ref a1)] [(.ref u10), (.ref a1)])) X11 hx rfl rfl rfl (pc0 := 4) (pc' := 7) (same := false) rfl (hb hby own_d_prog_57_method_6_4) rfl (decide_eq_false fun q => hn10 (Value.ref.inj q)) (by decide) (by decide) k) ?_
  show own_End p e below _ (T11.setTop (mkF m 7 #[.val (.ref a1)] []))
  refine own_by (fun _ k => XS.aloadN X11.here hx rfl (hb hby own_d_prog_57_method_6_7) rfl rfl k) ?_
  show own_End p e below _ (T11.setTop (mkF m 8 #[.val (.ref a1)] [(.ref a1)]))
  obtain ⟨T12, X12, e12, st12⟩ := getS2 X11 hx hZ hown (host := "") (Or.inl (hw _ (List.mem_of_getElem? (i := 39) rfl))) Via.refl e11 (S_u11.ext O) (g := (mkF m 8 #[.val (.ref a1)] [(.ref a1)])) rfl (hb hby own_d_prog_57_method_6_8)
  refine own_by st12 ?_
  show own_End p e below _ (T12.setTop (mkF m 11 #[.val (.ref a1)] [(.ref u11), (.ref a1)]))
  refine own_by (fun _ k => Jvm.RoadKit.acmp (g := (mkF m 11 #[.val (.ref a1)] [(.ref u11), (.ref a1)])) X12 hx rfl rfl rfl (pc0 := 11) (pc' := 14) (same := false) rfl (hb hby own_d_prog_57_method_6_11) rfl (decide_eq_false fun q => hn11 (Value.ref.inj q)) (by decide) (by decide) k) ?_
  show own_End p e below _ (T12.setTop (mkF m 14 #[.val (.ref a1)] []))
  refine own_by (fun _ k => XS.aloadN X12.here hx rfl (hb hby own_d_prog_57_method_6_14) rfl rfl k) ?_
  show own_End p e below _ (T12.setTop (mkF m 15 #[.val (.ref a1)] [(.ref a1)]))
  obtain ⟨T13, X13, e13, st13⟩ := getS2 X12 hx hZ hown (host := "") (Or.inl (hw _ (List.mem_of_getElem? (i := 40) rfl))) Via.refl e12 (S_u12.ext O) (g := (mkF m 15 #[.val (.ref a1)] [(.ref a1)])) rfl (hb hby own_d_prog_57_method_6_15)
  refine own_by st13 ?_
  show own_End p e below _ (T13.setTop (mkF m 18 #[.val (.ref a1)] [(.ref u12), (.ref a1)]))
  refine own_by (fun _ k => Jvm.RoadKit.acmp (g := (mkF m 18 #[.val (.ref a1)] [(.ref u12), (.ref a1)])) X13 hx rfl rfl rfl (pc0 := 18) (pc' := 21) (same := false) rfl (hb hby own_d_prog_57_method_6_18) rfl (decide_eq_false fun q => hn12 (Value.ref.inj q)) (by decide) (by decide) k) ?_
  show own_End p e below _ (T13.setTop (mkF m 21 #[.val (.ref a1)] []))
  refine own_by (fun _ k => XS.aloadN X13.here hx rfl (hb hby own_d_prog_57_method_6_21) rfl rfl k) ?_
  show own_End p e below _ (T13.setTop (mkF m 22 #[.val (.ref a1)] [(.ref a1)]))
  obtain ⟨T14, X14, e14, st14⟩ := getS2 X13 hx hZ hown (host := "") (Or.inl (hw _ (List.mem_of_getElem? (i := 41) rfl))) Via.refl e13 (S_u13.ext O) (g := (mkF m 22 #[.val (.ref a1)] [(.ref a1)])) rfl (hb hby own_d_prog_57_method_6_22)
  refine own_by st14 ?_
  show own_End p e below _ (T14.setTop (mkF m 25 #[.val (.ref a1)] [(.ref u13), (.ref a1)]))
  refine own_by (fun _ k => Jvm.RoadKit.acmp (g := (mkF m 25 #[.val (.ref a1)] [(.ref u13), (.ref a1)])) X14 hx rfl rfl rfl (pc0 := 25) (pc' := 28) (same := false) rfl (hb hby own_d_prog_57_method_6_25) rfl (decide_eq_false fun q => hn13 (Value.ref.inj q)) (by decide) (by decide) k) ?_
  show own_End p e below _ (T14.setTop (mkF m 28 #[.val (.ref a1)] []))
  refine own_by (fun _ k => XS.iconst X14.here hx rfl (hb hby own_d_prog_57_method_6_28) k) ?_
  show own_End p e below _ (T14.setTop (mkF m 29 #[.val (.ref a1)] [(.int (1 : Int32))]))
  refine own_by (fun _ k => XS.goto X14.here hx rfl (pc0 := 29) (pc' := 33) rfl (hb hby own_d_prog_57_method_6_29) (by decide) (by decide) k) ?_
  show own_End p e below _ (T14.setTop (mkF m 33 #[.val (.ref a1)] [(.int (1 : Int32))]))
  obtain ⟨fs, hr, hrun, hended, hW, hsame⟩ := X14.leave (v := (some (.int (1 : Int32)))) (fun h => by rw [Bd.returns] at h; cases h)
  refine ⟨_, _, retN X14 hx (t := .boolean) Bd.returns (by simp) (hb hby own_d_prog_57_method_6_33) hr, hrun, hended, _, _, rfl, ?_, ⟨_, rfl⟩, hW, hsame.mono (by decide) (by decide)⟩
  exact ⟨rfl, N0, e14⟩
set_option maxRecDepth 65536 in
set_option maxHeartbeats 40000000 in
theorem own_law (l : Launch) (Z : State) (a0 : Array Value) (hw : ∀ d ∈ tables_1, d.before a0 Z = true) (ws : List Jvm.Cond) (p1 : Int32) (u0 u1 u2 u3 u4 u5 u6 u7 u8 u9 u10 u11 u12 u13 : Addr) (h0 : Heap) (n0 : Nat) (Z0 : n0 ≤ Z.heap.size) (O : Ext Z.heap h0) (S_u0 : Sta Z Z.heap "com/example/tyche/tyche/lang/FilterExpression$Operator" "MIN" "Lcom/example/tyche/tyche/lang/FilterExpression$Operator;" (.ref u0)) (S_u1 : Sta Z Z.heap "com/example/tyche/tyche/lang/FilterExpression$Operator" "MAX" "Lcom/example/tyche/tyche/lang/FilterExpression$Operator;" (.ref u1)) (S_u2 : Sta Z Z.heap "com/example/tyche/tyche/lang/FilterExpression$Operator" "COUNT" "Lcom/example/tyche/tyche/lang/FilterExpression$Operator;" (.ref u2)) (S_u3 : Sta Z Z.heap "com/example/tyche/tyche/lang/FilterExpression$Operator" "SUM" "Lcom/example/tyche/tyche/lang/FilterExpression$Operator;" (.ref u3)) (S_u4 : Sta Z Z.heap "com/example/tyche/tyche/lang/FilterExpression$Operator" "AVG" "Lcom/example/tyche/tyche/lang/FilterExpression$Operator;" (.ref u4)) (S_u5 : Sta Z Z.heap "com/example/tyche/tyche/lang/FilterExpression$Operator" "FIRST" "Lcom/example/tyche/tyche/lang/FilterExpression$Operator;" (.ref u5)) (S_u6 : Sta Z Z.heap "com/example/tyche/tyche/lang/FilterExpression$Operator" "RANGE" "Lcom/example/tyche/tyche/lang/FilterExpression$Operator;" (.ref u6)) (S_u7 : Sta Z Z.heap "com/example/tyche/tyche/lang/FilterExpression$Operator" "FORALL" "Lcom/example/tyche/tyche/lang/FilterExpression$Operator;" (.ref u7)) (S_u8 : Sta Z Z.heap "com/example/tyche/tyche/lang/FilterExpression$Operator" "EXISTS" "Lcom/example/tyche/tyche/lang/FilterExpression$Operator;" (.ref u8)) (S_u9 : Sta Z Z.heap "com/example/tyche/tyche/lang/FilterExpression$Operator" "STATE" "Lcom/example/tyche/tyche/lang/FilterExpression$Operator;" (.ref u9)) (S_u10 : Sta Z Z.heap "com/example/tyche/tyche/lang/FilterExpression$Operator" "ARGMIN" "Lcom/example/tyche/tyche/lang/FilterExpression$Operator;" (.ref u10)) (S_u11 : Sta Z Z.heap "com/example/tyche/tyche/lang/FilterExpression$Operator" "ARGMAX" "Lcom/example/tyche/tyche/lang/FilterExpression$Operator;" (.ref u11)) (S_u12 : Sta Z Z.heap "com/example/tyche/tyche/lang/FilterExpression$Operator" "PRINT" "Lcom/example/tyche/tyche/lang/FilterExpression$Operator;" (.ref u12)) (S_u13 : Sta Z Z.heap "com/example/tyche/tyche/lang/FilterExpression$Operator" "PRINTALL" "Lcom/example/tyche/tyche/lang/FilterExpression$Operator;" (.ref u13)) (E_u0 : Exa Z Z.heap u0 "com/example/tyche/tyche/lang/FilterExpression$Operator") (E_u1 : Exa Z Z.heap u1 "com/example/tyche/tyche/lang/FilterExpression$Operator") (E_u2 : Exa Z Z.heap u2 "com/example/tyche/tyche/lang/FilterExpression$Operator") (E_u3 : Exa Z Z.heap u3 "com/example/tyche/tyche/lang/FilterExpression$Operator") (E_u4 : Exa Z Z.heap u4 "com/example/tyche/tyche/lang/FilterExpression$Operator") (E_u5 : Exa Z Z.heap u5 "com/example/tyche/tyche/lang/FilterExpression$Operator") (E_u6 : Exa Z Z.heap u6 "com/example/tyche/tyche/lang/FilterExpression$Operator") (E_u7 : Exa Z Z.heap u7 "com/example/tyche/tyche/lang/FilterExpression$Operator") (E_u8 : Exa Z Z.heap u8 "com/example/tyche/tyche/lang/FilterExpression$Operator") (E_u9 : Exa Z Z.heap u9 "com/example/tyche/tyche/lang/FilterExpression$Operator") (E_u10 : Exa Z Z.heap u10 "com/example/tyche/tyche/lang/FilterExpression$Operator") (E_u11 : Exa Z Z.heap u11 "com/example/tyche/tyche/lang/FilterExpression$Operator") (E_u12 : Exa Z Z.heap u12 "com/example/tyche/tyche/lang/FilterExpression$Operator") (E_u13 : Exa Z Z.heap u13 "com/example/tyche/tyche/lang/FilterExpression$Operator") (F_u0 : Fld Z Z.heap u0 "java/lang/Enum" "ordinal" "I" (.int 0)) (F_u1 : Fld Z Z.heap u1 "java/lang/Enum" "ordinal" "I" (.int 1)) (F_u2 : Fld Z Z.heap u2 "java/lang/Enum" "ordinal" "I" (.int 2)) (F_u3 : Fld Z Z.heap u3 "java/lang/Enum" "ordinal" "I" (.int 3)) (F_u4 : Fld Z Z.heap u4 "java/lang/Enum" "ordinal" "I" (.int 4)) (F_u5 : Fld Z Z.heap u5 "java/lang/Enum" "ordinal" "I" (.int 5)) (F_u6 : Fld Z Z.heap u6 "java/lang/Enum" "ordinal" "I" (.int 6)) (F_u7 : Fld Z Z.heap u7 "java/lang/Enum" "ordinal" "I" (.int 7)) (F_u8 : Fld Z Z.heap u8 "java/lang/Enum" "ordinal" "I" (.int 8)) (F_u9 : Fld Z Z.heap u9 "java/lang/Enum" "ordinal" "I" (.int 9)) (F_u10 : Fld Z Z.heap u10 "java/lang/Enum" "ordinal" "I" (.int 10)) (F_u11 : Fld Z Z.heap u11 "java/lang/Enum" "ordinal" "I" (.int 11)) (F_u12 : Fld Z Z.heap u12 "java/lang/Enum" "ordinal" "I" (.int 12)) (F_u13 : Fld Z Z.heap u13 "java/lang/Enum" "ordinal" "I" (.int 13)) :
    own_Met l Z x code maxLocals ret ws room_1 #[(.int p1)] h0 (fun v h L => v = some (.int 1) ∧ Fr n0 L) := by
  refine MetFree.of_bodySF (plainFor_of_name own_pn1) hisR ?_
  intro p e s m args below meth c s₁ Bd hml0 hP hK
  obtain ⟨rfl, hZ, hh⟩ := hP
  have hx := Bd.exec
  have hby := Bd.bytes
  have hml : c.maxLocals = 4 := hml0
  have hown : s.vm.findClass "com/example/tyche/tyche/lang/OperatorCombinesPinLaw" = some m.cls := findClass_of_methodNamed Bd.named
  have hnm := (name_of_methodNamed Bd.named Bd.method).1
  have X0 : Stand p l e room_1 s m #[(.int p1)] below meth c s₁ [] 0 0 := Stand.of_body Bd
  have e0 : s₁.heap = h0 := by rw [← hh, Bd.state]; rfl
  have N0 := Fr.nil n0
  have ef : entryFrame m #[(.int p1)] maxLocals = mkF m 0 #[.val (.int p1), .unset, .unset, .unset] [] := by first | (simp [entryFrame, mkF, argsToLocals, Value.category, maxLocals]; done) | rfl
  show own_End p e below _ (s₁.setTop (entryFrame m #[(.int p1)] maxLocals))
  refine own_by (fun _ k => castTop ef k) ?_
  show own_End p e below _ (s₁.setTop (mkF m 0 #[.val (.int p1), .unset, .unset, .unset] []))
  refine own_by (fun _ k => XS.bipush X0.here hx rfl (hb hby at_0) k) ?_
  show own_End p e below _ (s₁.setTop (mkF m 2 #[.val (.int p1), .unset, .unset, .unset] [(.int (14 : Int32))]))
  obtain ⟨T15, h15, k15, X15, e15, E15, A15, Ov15, st15⟩ := newR X0 hx hZ hown (hw _ (List.mem_of_getElem? (i := 0) rfl)) (hw _ (List.mem_of_getElem? (i := 1) rfl)) e0 (g := (mkF m 2 #[.val (.int p1), .unset, .unset, .unset] [(.int (14 : Int32))])) rfl (hb hby at_2) rfl (by decide) (cap := 14) (by decide) (by decide) (by decide) (by decide)
  obtain ⟨b15, g15⟩ : ∃ z, z = h0.size := ⟨_, rfl⟩
  rw [← g15] at A15 st15
  have g_b15 : Z.heap.size ≤ b15 := Nat.le_trans O.1 (Nat.le_of_eq g15.symm)
  have O15 := own_ext O E15
  have V15_b15 : Arv Z h15 b15 k15 (.object "com/example/tyche/tyche/lang/FilterExpression$Operator") (14 : Int32) [.null, .null, .null, .null, .null, .null, .null, .null, .null, .null, .null, .null, .null, .null] .null := (Arv.new A15 (by decide)).pad (pad_rep [] .null 14)
  refine own_by st15 ?_
  show own_End p e below _ (T15.setTop (mkF m 5 #[.val (.int p1), .unset, .unset, .unset] [(.ref b15)]))
  refine own_by (fun _ k => XS.dup X15.here hx rfl (hb hby at_5) rfl rfl k) ?_
  show own_End p e below _ (T15.setTop (mkF m 6 #[.val (.int p1), .unset, .unset, .unset] [(.ref b15), (.ref b15)]))
  refine own_by (fun _ k => XS.iconst X15.here hx rfl (hb hby at_6) k) ?_
  show own_End p e below _ (T15.setTop (mkF m 7 #[.val (.int p1), .unset, .unset, .unset] [(.int (0 : Int32)), (.ref b15), (.ref b15)]))
  obtain ⟨T16, X16, e16, st16⟩ := getS2 X15 hx hZ hown (host := "") (Or.inl (hw _ (List.mem_of_getElem? (i := 2) rfl))) Via.refl e15 (S_u0.ext O15) (g := (mkF m 7 #[.val (.int p1), .unset, .unset, .unset] [(.int (0 : Int32)), (.ref b15), (.ref b15)])) rfl (hb hby at_7)
  refine own_by st16 ?_
  show own_End p e below _ (T16.setTop (mkF m 10 #[.val (.int p1), .unset, .unset, .unset] [(.ref u0), (.int (0 : Int32)), (.ref b15), (.ref b15)]))
  obtain ⟨T17, h17, X17, e17, W17, V17_b15, st17⟩ := own_stR X16 hx hZ e16 V15_b15 Ov15 (E_u0.ext O15) (j := (0 : Int32)) 0 rfl ⟨by decide, by decide⟩ (Nat.le_of_ble_eq_true rfl) (g := (mkF m 10 #[.val (.int p1), .unset, .unset, .unset] [(.ref u0), (.int (0 : Int32)), (.ref b15), (.ref b15)])) rfl rfl (hb hby at_10)
  have O17 := own_extW O15 W17 g_b15
  have N17 := Fr.snoc X17 N0 (Nat.le_trans Z0 g_b15)
  replace V17_b15 : Arv Z h17 b15 k15 (.object "com/example/tyche/tyche/lang/FilterExpression$Operator") (14 : Int32) [(.ref u0), .null, .null, .null, .null, .null, .null, .null, .null, .null, .null, .null, .null, .null] .null := V17_b15
  refine own_by st17 ?_
  show own_End p e below _ (T17.setTop (mkF m 11 #[.val (.int p1), .unset, .unset, .unset] [(.ref b15)]))
  refine own_by (fun _ k => XS.dup X17.here hx rfl (hb hby at_11) rfl rfl k) ?_
  show own_End p e below _ (T17.setTop (mkF m 12 #[.val (.int p1), .unset, .unset, .unset] [(.ref b15), (.ref b15)]))
  refine own_by (fun _ k => XS.iconst X17.here hx rfl (hb hby at_12) k) ?_
  show own_End p e below _ (T17.setTop (mkF m 13 #[.val (.int p1), .unset, .unset, .unset] [(.int (1 : Int32)), (.ref b15), (.ref b15)]))
  obtain ⟨T18, X18, e18, st18⟩ := getS2 X17 hx hZ hown (host := "") (Or.inl (hw _ (List.mem_of_getElem? (i := 6) rfl))) Via.refl e17 (S_u1.ext O17) (g := (mkF m 13 #[.val (.int p1), .unset, .unset, .unset] [(.int (1 : Int32)), (.ref b15), (.ref b15)])) rfl (hb hby at_13)
  refine own_by st18 ?_
  show own_End p e below _ (T18.setTop (mkF m 16 #[.val (.int p1), .unset, .unset, .unset] [(.ref u1), (.int (1 : Int32)), (.ref b15), (.ref b15)]))
  obtain ⟨T19, h19, X19, e19, W19, V19_b15, st19⟩ := own_stR X18 hx hZ e18 V17_b15 Ov15 (E_u1.ext O17) (j := (1 : Int32)) 1 rfl ⟨by decide, by decide⟩ (Nat.le_of_ble_eq_true rfl) (g := (mkF m 16 #[.val (.int p1), .unset, .unset, .unset] [(.ref u1), (.int (1 : Int32)), (.ref b15), (.ref b15)])) rfl rfl (hb hby at_16)
  have O19 := own_extW O17 W19 g_b15
  have N19 := Fr.snoc X19 N17 (Nat.le_trans Z0 g_b15)
  replace V19_b15 : Arv Z h19 b15 k15 (.object "com/example/tyche/tyche/lang/FilterExpression$Operator") (14 : Int32) [(.ref u0), (.ref u1), .null, .null, .null, .null, .null, .null, .null, .null, .null, .null, .null, .null] .null := V19_b15
  refine own_by st19 ?_
  show own_End p e below _ (T19.setTop (mkF m 17 #[.val (.int p1), .unset, .unset, .unset] [(.ref b15)]))
  refine own_by (fun _ k => XS.dup X19.here hx rfl (hb hby at_17) rfl rfl k) ?_
  show own_End p e below _ (T19.setTop (mkF m 18 #[.val (.int p1), .unset, .unset, .unset] [(.ref b15), (.ref b15)]))
  refine own_by (fun _ k => XS.iconst X19.here hx rfl (hb hby at_18) k) ?_
  show own_End p e below _ (T19.setTop (mkF m 19 #[.val (.int p1), .unset, .unset, .unset] [(.int (2 : Int32)), (.ref b15), (.ref b15)]))
  obtain ⟨T20, X20, e20, st20⟩ := getS2 X19 hx hZ hown (host := "") (Or.inl (hw _ (List.mem_of_getElem? (i := 8) rfl))) Via.refl e19 (S_u2.ext O19) (g := (mkF m 19 #[.val (.int p1), .unset, .unset, .unset] [(.int (2 : Int32)), (.ref b15), (.ref b15)])) rfl (hb hby at_19)
  refine own_by st20 ?_
  show own_End p e below _ (T20.setTop (mkF m 22 #[.val (.int p1), .unset, .unset, .unset] [(.ref u2), (.int (2 : Int32)), (.ref b15), (.ref b15)]))
  obtain ⟨T21, h21, X21, e21, W21, V21_b15, st21⟩ := own_stR X20 hx hZ e20 V19_b15 Ov15 (E_u2.ext O19) (j := (2 : Int32)) 2 rfl ⟨by decide, by decide⟩ (Nat.le_of_ble_eq_true rfl) (g := (mkF m 22 #[.val (.int p1), .unset, .unset, .unset] [(.ref u2), (.int (2 : Int32)), (.ref b15), (.ref b15)])) rfl rfl (hb hby at_22)
  have O21 := own_extW O19 W21 g_b15
  have N21 := Fr.snoc X21 N19 (Nat.le_trans Z0 g_b15)
  replace V21_b15 : Arv Z h21 b15 k15 (.object "com/example/tyche/tyche/lang/FilterExpression$Operator") (14 : Int32) [(.ref u0), (.ref u1), (.ref u2), .null, .null, .null, .null, .null, .null, .null, .null, .null, .null, .null] .null := V21_b15
  refine own_by st21 ?_
  show own_End p e below _ (T21.setTop (mkF m 23 #[.val (.int p1), .unset, .unset, .unset] [(.ref b15)]))
  refine own_by (fun _ k => XS.dup X21.here hx rfl (hb hby at_23) rfl rfl k) ?_
  show own_End p e below _ (T21.setTop (mkF m 24 #[.val (.int p1), .unset, .unset, .unset] [(.ref b15), (.ref b15)]))
  refine own_by (fun _ k => XS.iconst X21.here hx rfl (hb hby at_24) k) ?_
  show own_End p e below _ (T21.setTop (mkF m 25 #[.val (.int p1), .unset, .unset, .unset] [(.int (3 : Int32)), (.ref b15), (.ref b15)]))
  obtain ⟨T22, X22, e22, st22⟩ := getS2 X21 hx hZ hown (host := "") (Or.inl (hw _ (List.mem_of_getElem? (i := 10) rfl))) Via.refl e21 (S_u3.ext O21) (g := (mkF m 25 #[.val (.int p1), .unset, .unset, .unset] [(.int (3 : Int32)), (.ref b15), (.ref b15)])) rfl (hb hby at_25)
  refine own_by st22 ?_
  show own_End p e below _ (T22.setTop (mkF m 28 #[.val (.int p1), .unset, .unset, .unset] [(.ref u3), (.int (3 : Int32)), (.ref b15), (.ref b15)]))
  obtain ⟨T23, h23, X23, e23, W23, V23_b15, st23⟩ := own_stR X22 hx hZ e22 V21_b15 Ov15 (E_u3.ext O21) (j := (3 : Int32)) 3 rfl ⟨by decide, by decide⟩ (Nat.le_of_ble_eq_true rfl) (g := (mkF m 28 #[.val (.int p1), .unset, .unset, .unset] [(.ref u3), (.int (3 : Int32)), (.ref b15), (.ref b15)])) rfl rfl (hb hby at_28)
  have O23 := own_extW O21 W23 g_b15
  have N23 := Fr.snoc X23 N21 (Nat.le_trans Z0 g_b15)
  replace V23_b15 : Arv Z h23 b15 k15 (.object "com/example/tyche/tyche/lang/FilterExpression$Operator") (14 : Int32) [(.ref u0), (.ref u1), (.ref u2), (.ref u3), .null, .null, .null, .null, .null, .null, .null, .null, .null, .null] .null := V23_b15
  refine own_by st23 ?_
  show own_End p e below _ (T23.setTop (mkF m 29 #[.val (.int p1), .unset, .unset, .unset] [(.ref b15)]))
  refine own_by (fun _ k => XS.dup X23.here hx rfl (hb hby at_29) rfl rfl k) ?_
  show own_End p e below _ (T23.setTop (mkF m 30 #[.val (.int p1), .unset, .unset, .unset] [(.ref b15), (.ref b15)]))
  refine own_by (fun _ k => XS.iconst X23.here hx rfl (hb hby at_30) k) ?_
  show own_End p e below _ (T23.setTop (mkF m 31 #[.val (.int p1), .unset, .unset, .unset] [(.int (4 : Int32)), (.ref b15), (.ref b15)]))
  obtain ⟨T24, X24, e24, st24⟩ := getS2 X23 hx hZ hown (host := "") (Or.inl (hw _ (List.mem_of_getElem? (i := 12) rfl))) Via.refl e23 (S_u4.ext O23) (g := (mkF m 31 #[.val (.int p1), .unset, .unset, .unset] [(.int (4 : Int32)), (.ref b15), (.ref b15)])) rfl (hb hby at_31)
  refine own_by st24 ?_
  show own_End p e below _ (T24.setTop (mkF m 34 #[.val (.int p1), .unset, .unset, .unset] [(.ref u4), (.int (4 : Int32)), (.ref b15), (.ref b15)]))
  obtain ⟨T25, h25, X25, e25, W25, V25_b15, st25⟩ := own_stR X24 hx hZ e24 V23_b15 Ov15 (E_u4.ext O23) (j := (4 : Int32)) 4 rfl ⟨by decide, by decide⟩ (Nat.le_of_ble_eq_true rfl) (g := (mkF m 34 #[.val (.int p1), .unset, .unset, .unset] [(.ref u4), (.int (4 : Int32)), (.ref b15), (.ref b15)])) rfl rfl (hb hby at_34)
  have O25 := own_extW O23 W25 g_b15
  have N25 := Fr.snoc X25 N23 (Nat.le_trans Z0 g_b15)
  replace V25_b15 : Arv Z h25 b15 k15 (.object "com/example/tyche/tyche/lang/FilterExpression$Operator") (14 : Int32) [(.ref u0), (.ref u1), (.ref u2), (.ref u3), (.ref u4), .null, .null, .null, .null, .null, .null, .null, .null, .null] .null := V25_b15
  refine own_by st25 ?_
  show own_End p e below _ (T25.setTop (mkF m 35 #[.val (.int p1), .unset, .unset, .unset] [(.ref b15)]))
  refine own_by (fun _ k => XS.dup X25.here hx rfl (hb hby at_35) rfl rfl k) ?_
  show own_End p e below _ (T25.setTop (mkF m 36 #[.val (.int p1), .unset, .unset, .unset] [(.ref b15), (.ref b15)]))
  refine own_by (fun _ k => XS.iconst X25.here hx rfl (hb hby at_36) k) ?_
  show own_End p e below _ (T25.setTop (mkF m 37 #[.val (.int p1), .unset, .unset, .unset] [(.int (5 : Int32)), (.ref b15), (.ref b15)]))
  obtain ⟨T26, X26, e26, st26⟩ := getS2 X25 hx hZ hown (host := "") (Or.inl (hw _ (List.mem_of_getElem? (i := 14) rfl))) Via.refl e25 (S_u5.ext O25) (g := (mkF m 37 #[.val (.int p1), .unset, .unset, .unset] [(.int (5 : Int32)), (.ref b15), (.ref b15)])) rfl (hb hby at_37)
  refine own_by st26 ?_
  show own_End p e below _ (T26.setTop (mkF m 40 #[.val (.int p1), .unset, .unset, .unset] [(.ref u5), (.int (5 : Int32)), (.ref b15), (.ref b15)]))
  obtain ⟨T27, h27, X27, e27, W27, V27_b15, st27⟩ := own_stR X26 hx hZ e26 V25_b15 Ov15 (E_u5.ext O25) (j := (5 : Int32)) 5 rfl ⟨by decide, by decide⟩ (Nat.le_of_ble_eq_true rfl) (g := (mkF m 40 #[.val (.int p1), .unset, .unset, .unset] [(.ref u5), (.int (5 : Int32)), (.ref b15), (.ref b15)])) rfl rfl (hb hby at_40)
  have O27 := own_extW O25 W27 g_b15
  have N27 := Fr.snoc X27 N25 (Nat.le_trans Z0 g_b15)
  replace V27_b15 : Arv Z h27 b15 k15 (.object "com/example/tyche/tyche/lang/FilterExpression$Operator") (14 : Int32) [(.ref u0), (.ref u1), (.ref u2), (.ref u3), (.ref u4), (.ref u5), .null, .null, .null, .null, .null, .null, .null, .null] .null := V27_b15
  refine own_by st27 ?_
  show own_End p e below _ (T27.setTop (mkF m 41 #[.val (.int p1), .unset, .unset, .unset] [(.ref b15)]))
  refine own_by (fun _ k => XS.dup X27.here hx rfl (hb hby at_41) rfl rfl k) ?_
  show own_End p e below _ (T27.setTop (mkF m 42 #[.val (.int p1), .unset, .unset, .unset] [(.ref b15), (.ref b15)]))
  refine own_by (fun _ k => XS.bipush X27.here hx rfl (hb hby at_42) k) ?_
  show own_End p e below _ (T27.setTop (mkF m 44 #[.val (.int p1), .unset, .unset, .unset] [(.int (6 : Int32)), (.ref b15), (.ref b15)]))
  obtain ⟨T28, X28, e28, st28⟩ := getS2 X27 hx hZ hown (host := "") (Or.inl (hw _ (List.mem_of_getElem? (i := 16) rfl))) Via.refl e27 (S_u6.ext O27) (g := (mkF m 44 #[.val (.int p1), .unset, .unset, .unset] [(.int (6 : Int32)), (.ref b15), (.ref b15)])) rfl (hb hby at_44)
  refine own_by st28 ?_
  show own_End p e below _ (T28.setTop (mkF m 47 #[.val (.int p1), .unset, .unset, .unset] [(.ref u6), (.int (6 : Int32)), (.ref b15), (.ref b15)]))
  obtain ⟨T29, h29, X29, e29, W29, V29_b15, st29⟩ := own_stR X28 hx hZ e28 V27_b15 Ov15 (E_u6.ext O27) (j := (6 : Int32)) 6 rfl ⟨by decide, by decide⟩ (Nat.le_of_ble_eq_true rfl) (g := (mkF m 47 #[.val (.int p1), .unset, .unset, .unset] [(.ref u6), (.int (6 : Int32)), (.ref b15), (.ref b15)])) rfl rfl (hb hby at_47)
  have O29 := own_extW O27 W29 g_b15
  have N29 := Fr.snoc X29 N27 (Nat.le_trans Z0 g_b15)
  replace V29_b15 : Arv Z h29 b15 k15 (.object "com/example/tyche/tyche/lang/FilterExpression$Operator") (14 : Int32) [(.ref u0), (.ref u1), (.ref u2), (.ref u3), (.ref u4), (.ref u5), (.ref u6), .null, .null, .null, .null, .null, .null, .null] .null := V29_b15
  refine own_by st29 ?_
  show own_End p e below _ (T29.setTop (mkF m 48 #[.val (.int p1), .unset, .unset, .unset] [(.ref b15)]))
  refine own_by (fun _ k => XS.dup X29.here hx rfl (hb hby at_48) rfl rfl k) ?_
  show own_End p e below _ (T29.setTop (mkF m 49 #[.val (.int p1), .unset, .unset, .unset] [(.ref b15), (.ref b15)]))
  refine own_by (fun _ k => XS.bipush X29.here hx rfl (hb hby at_49) k) ?_
  show own_End p e below _ (T29.setTop (mkF m 51 #[.val (.int p1), .unset, .unset, .unset] [(.int (7 : Int32)), (.ref b15), (.ref b15)]))
  obtain ⟨T30, X30, e30, st30⟩ := getS2 X29 hx hZ hown (host := "") (Or.inl (hw _ (List.mem_of_getElem? (i := 18) rfl))) Via.refl e29 (S_u7.ext O29) (g := (mkF m 51 #[.val (.int p1), .unset, .unset, .unset] [(.int (7 : Int32)), (.ref b15), (.ref b15)])) rfl (hb hby at_51)
  refine own_by st30 ?_
  show own_End p e below _ (T30.setTop (mkF m 54 #[.val (.int p1), .unset, .unset, .unset] [(.ref u7), (.int (7 : Int32)), (.ref b15), (.ref b15)]))
  obtain ⟨T31, h31, X31, e31, W31, V31_b15, st31⟩ := own_stR X30 hx hZ e30 V29_b15 Ov15 (E_u7.ext O29) (j := (7 : Int32)) 7 rfl ⟨by decide, by decide⟩ (Nat.le_of_ble_eq_true rfl) (g := (mkF m 54 #[.val (.int p1), .unset, .unset, .unset] [(.ref u7), (.int (7 : Int32)), (.ref b15), (.ref b15)])) rfl rfl (hb hby at_54)
  have O31 := own_extW O29 W31 g_b15
  have N31 := Fr.snoc X31 N29 (Nat.le_trans Z0 g_b15)
  replace V31_b15 : Arv Z h31 b15 k15 (.object "com/example/tyche/tyche/lang/FilterExpression$Operator") (14 : Int32) [(.ref u0), (.ref u1), (.ref u2), (.ref u3), (.ref u4), (.ref u5), (.ref u6), (.ref u7), .null, .null, .null, .null, .null, .null] .null := V31_b15
  refine own_by st31 ?_
  show own_End p e below _ (T31.setTop (mkF m 55 #[.val (.int p1), .unset, .unset, .unset] [(.ref b15)]))
  refine own_by (fun _ k => XS.dup X31.here hx rfl (hb hby at_55) rfl rfl k) ?_
  show own_End p e below _ (T31.setTop (mkF m 56 #[.val (.int p1), .unset, .unset, .unset] [(.ref b15), (.ref b15)]))
  refine own_by (fun _ k => XS.bipush X31.here hx rfl (hb hby at_56) k) ?_
  show own_End p e below _ (T31.setTop (mkF m 58 #[.val (.int p1), .unset, .unset, .unset] [(.int (8 : Int32)), (.ref b15), (.ref b15)]))
  obtain ⟨T32, X32, e32, st32⟩ := getS2 X31 hx hZ hown (host := "") (Or.inl (hw _ (List.mem_of_getElem? (i := 20) rfl))) Via.refl e31 (S_u8.ext O31) (g := (mkF m 58 #[.val (.int p1), .unset, .unset, .unset] [(.int (8 : Int32)), (.ref b15), (.ref b15)])) rfl (hb hby at_58)
  refine own_by st32 ?_
  show own_End p e below _ (T32.setTop (mkF m 61 #[.val (.int p1), .unset, .unset, .unset] [(.ref u8), (.int (8 : Int32)), (.ref b15), (.ref b15)]))
  obtain ⟨T33, h33, X33, e33, W33, V33_b15, st33⟩ := own_stR X32 hx hZ e32 V31_b15 Ov15 (E_u8.ext O31) (j := (8 : Int32)) 8 rfl ⟨by decide, by decide⟩ (Nat.le_of_ble_eq_true rfl) (g := (mkF m 61 #[.val (.int p1), .unset, .unset, .unset] [(.ref u8), (.int (8 : Int32)), (.ref b15), (.ref b15)])) rfl rfl (hb hby at_61)
  have O33 := own_extW O31 W33 g_b15
  have N33 := Fr.snoc X33 N31 (Nat.le_trans Z0 g_b15)
  replace V33_b15 : Arv Z h33 b15 k15 (.object "com/example/tyche/tyche/lang/FilterExpression$Operator") (14 : Int32) [(.ref u0), (.ref u1), (.ref u2), (.ref u3), (.ref u4), (.ref u5), (.ref u6), (.ref u7), (.ref u8), .null, .null, .null, .null, .null] .null := V33_b15
  refine own_by st33 ?_
  show own_End p e below _ (T33.setTop (mkF m 62 #[.val (.int p1), .unset, .unset, .unset] [(.ref b15)]))
  refine own_by (fun _ k => XS.dup X33.here hx rfl (hb hby at_62) rfl rfl k) ?_
  show own_End p e below _ (T33.setTop (mkF m 63 #[.val (.int p1), .unset, .unset, .unset] [(.ref b15), (.ref b15)]))
  refine own_by (fun _ k => XS.bipush X33.here hx rfl (hb hby at_63) k) ?_
  show own_End p e below _ (T33.setTop (mkF m 65 #[.val (.int p1), .unset, .unset, .unset] [(.int (9 : Int32)), (.ref b15), (.ref b15)]))
  obtain ⟨T34, X34, e34, st34⟩ := getS2 X33 hx hZ hown (host := "") (Or.inl (hw _ (List.mem_of_getElem? (i := 22) rfl))) Via.refl e33 (S_u9.ext O33) (g := (mkF m 65 #[.val (.int p1), .unset, .unset, .unset] [(.int (9 : Int32)), (.ref b15), (.ref b15)])) rfl (hb hby at_65)
  refine own_by st34 ?_
  show own_End p e below _ (T34.setTop (mkF m 68 #[.val (.int p1), .unset, .unset, .unset] [(.ref u9), (.int (9 : Int32)), (.ref b15), (.ref b15)]))
  obtain ⟨T35, h35, X35, e35, W35, V35_b15, st35⟩ := own_stR X34 hx hZ e34 V33_b15 Ov15 (E_u9.ext O33) (j := (9 : Int32)) 9 rfl ⟨by decide, by decide⟩ (Nat.le_of_ble_eq_true rfl) (g := (mkF m 68 #[.val (.int p1), .unset, .unset, .unset] [(.ref u9), (.int (9 : Int32)), (.ref b15), (.ref b15)])) rfl rfl (hb hby at_68)
  have O35 := own_extW O33 W35 g_b15
  have N35 := Fr.snoc X35 N33 (Nat.le_trans Z0 g_b15)
  replace V35_b15 : Arv Z h35 b15 k15 (.object "com/example/tyche/tyche/lang/FilterExpression$Operator") (14 : Int32) [(.ref u0), (.ref u1), (.ref u2), (.ref u3), (.ref u4), (.ref u5), (.ref u6), (.ref u7), (.ref u8), (.ref u9), .null, .null, .null, .null] .null := V35_b15
  refine own_by st35 ?_
  show own_End p e below _ (T35.setTop (mkF m 69 #[.val (.int p1), .unset, .unset, .unset] [(.ref b15)]))
  refine own_by (fun _ k => XS.dup X35.here hx rfl (hb hby at_69) rfl rfl k) ?_
  show own_End p e below _ (T35.setTop (mkF m 70 #[.val (.int p1), .unset, .unset, .unset] [(.ref b15), (.ref b15)]))
  refine own_by (fun _ k => XS.bipush X35.here hx rfl (hb hby at_70) k) ?_
  show own_End p e below _ (T35.setTop (mkF m 72 #[.val (.int p1), .unset, .unset, .unset] [(.int (10 : Int32)), (.ref b15), (.ref b15)]))
  obtain ⟨T36, X36, e36, st36⟩ := getS2 X35 hx hZ hown (host := "") (Or.inl (hw _ (List.mem_of_getElem? (i := 24) rfl))) Via.refl e35 (S_u10.ext O35) (g := (mkF m 72 #[.val (.int p1), .unset, .unset, .unset] [(.int (10 : Int32)), (.ref b15), (.ref b15)])) rfl (hb hby at_72)
  refine own_by st36 ?_
  show own_End p e below _ (T36.setTop (mkF m 75 #[.val (.int p1), .unset, .unset, .unset] [(.ref u10), (.int (10 : Int32)), (.ref b15), (.ref b15)]))
  obtain ⟨T37, h37, X37, e37, W37, V37_b15, st37⟩ := own_stR X36 hx hZ e36 V35_b15 Ov15 (E_u10.ext O35) (j := (10 : Int32)) 10 rfl ⟨by decide, by decide⟩ (Nat.le_of_ble_eq_true rfl) (g := (mkF m 75 #[.val (.int p1), .unset, .unset, .unset] [(.ref u10), (.int (10 : Int32)), (.ref b15), (.ref b15)])) rfl rfl (hb hby at_75)
  have O37 := own_extW O35 W37 g_b15
  have N37 := Fr.snoc X37 N35 (Nat.le_trans Z0 g_b15)
  replace V37_b15 : Arv Z h37 b15 k15 (.object "com/example/tyche/tyche/lang/FilterExpression$Operator") (14 : Int32) [(.ref u0), (.ref u1), (.ref u2), (.ref u3), (.ref u4), (.ref u5), (.ref u6), (.ref u7), (.ref u8), (.ref u9), (.ref u10), .null, .null, .null] .null := V37_b15
  refine own_by st37 ?_
  show own_End p e below _ (T37.setTop (mkF m 76 #[.val (.int p1), .unset, .unset, .unset] [(.ref b15)]))
  refine own_by (fun _ k => XS.dup X37.here hx rfl (hb hby at_76) rfl rfl k) ?_
  show own_End p e below _ (T37.setTop (mkF m 77 #[.val (.int p1), .unset, .unset, .unset] [(.ref b15), (.ref b15)]))
  refine own_by (fun _ k => XS.bipush X37.here hx rfl (hb hby at_77) k) ?_
  show own_End p e below _ (T37.setTop (mkF m 79 #[.val (.int p1), .unset, .unset, .unset] [(.int (11 : Int32)), (.ref b15), (.ref b15)]))
  obtain ⟨T38, X38, e38, st38⟩ := getS2 X37 hx hZ hown (host := "") (Or.inl (hw _ (List.mem_of_getElem? (i := 26) rfl))) Via.refl e37 (S_u11.ext O37) (g := (mkF m 79 #[.val (.int p1), .unset, .unset, .unset] [(.int (11 : Int32)), (.ref b15), (.ref b15)])) rfl (hb hby at_79)
  refine own_by st38 ?_
  show own_End p e below _ (T38.setTop (mkF m 82 #[.val (.int p1), .unset, .unset, .unset] [(.ref u11), (.int (11 : Int32)), (.ref b15), (.ref b15)]))
  obtain ⟨T39, h39, X39, e39, W39, V39_b15, st39⟩ := own_stR X38 hx hZ e38 V37_b15 Ov15 (E_u11.ext O37) (j := (11 : Int32)) 11 rfl ⟨by decide, by decide⟩ (Nat.le_of_ble_eq_true rfl) (g := (mkF m 82 #[.val (.int p1), .unset, .unset, .unset] [(.ref u11), (.int (11 : Int32)), (.ref b15), (.ref b15)])) rfl rfl (hb hby at_82)
  have O39 := own_extW O37 W39 g_b15
  have N39 := Fr.snoc X39 N37 (Nat.le_trans Z0 g_b15)
  replace V39_b15 : Arv Z h39 b15 k15 (.object "com/example/tyche/tyche/lang/FilterExpression$Operator") (14 : Int32) [(.ref u0), (.ref u1), (.ref u2), (.ref u3), (.ref u4), (.ref u5), (.ref u6), (.ref u7), (.ref u8), (.ref u9), (.ref u10), (.ref u11), .null, .null] .null := V39_b15
  refine own_by st39 ?_
  show own_End p e below _ (T39.setTop (mkF m 83 #[.val (.int p1), .unset, .unset, .unset] [(.ref b15)]))
  refine own_by (fun _ k => XS.dup X39.here hx rfl (hb hby at_83) rfl rfl k) ?_
  show own_End p e below _ (T39.setTop (mkF m 84 #[.val (.int p1), .unset, .unset, .unset] [(.ref b15), (.ref b15)]))
  refine own_by (fun _ k => XS.bipush X39.here hx rfl (hb hby at_84) k) ?_
  show own_End p e below _ (T39.setTop (mkF m 86 #[.val (.int p1), .unset, .unset, .unset] [(.int (12 : Int32)), (.ref b15), (.ref b15)]))
  obtain ⟨T40, X40, e40, st40⟩ := getS2 X39 hx hZ hown (host := "") (Or.inl (hw _ (List.mem_of_getElem? (i := 28) rfl))) Via.refl e39 (S_u12.ext O39) (g := (mkF m 86 #[.val (.int p1), .unset, .unset, .unset] [(.int (12 : Int32)), (.ref b15), (.ref b15)])) rfl (hb hby at_86)
  refine own_by st40 ?_
  show own_End p e below _ (T40.setTop (mkF m 89 #[.val (.int p1), .unset, .unset, .unset] [(.ref u12), (.int (12 : Int32)), (.ref b15), (.ref b15)]))
  obtain ⟨T41, h41, X41, e41, W41, V41_b15, st41⟩ := own_stR X40 hx hZ e40 V39_b15 Ov15 (E_u12.ext O39) (j := (12 : Int32)) 12 rfl ⟨by decide, by decide⟩ (Nat.le_of_ble_eq_true rfl) (g := (mkF m 89 #[.val (.int p1), .unset, .unset, .unset] [(.ref u12), (.int (12 : Int32)), (.ref b15), (.ref b15)])) rfl rfl (hb hby at_89)
  have O41 := own_extW O39 W41 g_b15
  have N41 := Fr.snoc X41 N39 (Nat.le_trans Z0 g_b15)
  replace V41_b15 : Arv Z h41 b15 k15 (.object "com/example/tyche/tyche/lang/FilterExpression$Operator") (14 : Int32) [(.ref u0), (.ref u1), (.ref u2), (.ref u3), (.ref u4), (.ref u5), (.ref u6), (.ref u7), (.ref u8), (.ref u9), (.ref u10), (.ref u11), (.ref u12), .null] .null := V41_b15
  refine own_by st41 ?_
  show own_End p e below _ (T41.setTop (mkF m 90 #[.val (.int p1), .unset, .unset, .unset] [(.ref b15)]))
  refine own_by (fun _ k => XS.dup X41.here hx rfl (hb hby at_90) rfl rfl k) ?_
  show own_End p e below _ (T41.setTop (mkF m 91 #[.val (.int p1), .unset, .unset, .unset] [(.ref b15), (.ref b15)]))
  refine own_by (fun _ k => XS.bipush X41.here hx rfl (hb hby at_91) k) ?_
  show own_End p e below _ (T41.setTop (mkF m 93 #[.val (.int p1), .unset, .unset, .unset] [(.int (13 : Int32)), (.ref b15), (.ref b15)]))
  obtain ⟨T42, X42, e42, st42⟩ := getS2 X41 hx hZ hown (host := "") (Or.inl (hw _ (List.mem_of_getElem? (i := 30) rfl))) Via.refl e41 (S_u13.ext O41) (g := (mkF m 93 #[.val (.int p1), .unset, .unset, .unset] [(.int (13 : Int32)), (.ref b15), (.ref b15)])) rfl (hb hby at_93)
  refine own_by st42 ?_
  show own_End p e below _ (T42.setTop (mkF m 96 #[.val (.int p1), .unset, .unset, .unset] [(.ref u13), (.int (13 : Int32)), (.ref b15), (.ref b15)]))
  obtain ⟨T43, h43, X43, e43, W43, V43_b15, st43⟩ := own_stR X42 hx hZ e42 V41_b15 Ov15 (E_u13.ext O41) (j := (13 : Int32)) 13 rfl ⟨by decide, by decide⟩ (Nat.le_of_ble_eq_true rfl) (g := (mkF m 96 #[.val (.int p1), .unset, .unset, .unset] [(.ref u13), (.int (13 : Int32)), (.ref b15), (.ref b15)])) rfl rfl (hb hby at_96)
  have O43 := own_extW O41 W43 g_b15
  have N43 := Fr.snoc X43 N41 (Nat.le_trans Z0 g_b15)
  replace V43_b15 : Arv Z h43 b15 k15 (.object "com/example/tyche/tyche/lang/FilterExpression$Operator") (14 : Int32) [(.ref u0), (.ref u1), (.ref u2), (.ref u3), (.ref u4), (.ref u5), (.ref u6), (.ref u7), (.ref u8), (.ref u9), (.ref u10), (.ref u11), (.ref u12), (.ref u13)] .null := V43_b15
  refine own_by st43 ?_
  show own_End p e below _ (T43.setTop (mkF m 97 #[.val (.int p1), .unset, .unset, .unset] [(.ref b15)]))
  refine own_by (fun _ k => XS.astoreN X43.here hx rfl (hb hby at_97) rfl rfl (l' := #[.val (.int p1), .val (.ref b15), .unset, .unset]) rfl k) ?_
  show own_End p e below _ (T43.setTop (mkF m 98 #[.val (.int p1), .val (.ref b15), .unset, .unset] []))
  refine own_by (fun _ k => XS.iloadN X43.here hx rfl (hb hby at_98) rfl k) ?_
  show own_End p e below _ (T43.setTop (mkF m 99 #[.val (.int p1), .val (.ref b15), .unset, .unset] [(.int p1)]))
  refine own_by (fun _ k => X43.ldcInt hx hown (mvT hZ (hw _ (List.mem_of_getElem? (i := 32) rfl))) (g := (mkF m 99 #[.val (.int p1), .val (.ref b15), .unset, .unset] [(.int p1)])) rfl (hb hby at_99) _ k) ?_
  show own_End p e below _ (T43.setTop (mkF m 101 #[.val (.int p1), .val (.ref b15), .unset, .unset] [(.int (2147483647 : Int32)), (.int p1)]))
  refine own_by (fun _ k => XS.iand X43.here hx rfl (hb hby at_101) rfl k) ?_
  show own_End p e below _ (T43.setTop (mkF m 102 #[.val (.int p1), .val (.ref b15), .unset, .unset] [(.int (p1 &&& (2147483647 : Int32)))]))
  refine own_by (fun _ k => XS.bipush X43.here hx rfl (hb hby at_102) k) ?_
  show own_End p e below _ (T43.setTop (mkF m 104 #[.val (.int p1), .val (.ref b15), .unset, .unset] [(.int (14 : Int32)), (.int (p1 &&& (2147483647 : Int32)))]))
  refine own_by (fun _ k => iremM (g := (mkF m 104 #[.val (.int p1), .val (.ref b15), .unset, .unset] [(.int (14 : Int32)), (.int (p1 &&& (2147483647 : Int32)))])) X43 hx rfl (hb hby at_104) rfl (by decide) k) ?_
  show own_End p e below _ (T43.setTop (mkF m 105 #[.val (.int p1), .val (.ref b15), .unset, .unset] [(.int ((p1 &&& (2147483647 : Int32)) % (14 : Int32)))]))
  refine own_by (fun _ k => XS.istoreN X43.here hx rfl (hb hby at_105) rfl (l' := #[.val (.int p1), .val (.ref b15), .val (.int ((p1 &&& (2147483647 : Int32)) % (14 : Int32))), .unset]) rfl k) ?_
  show own_End p e below _ (T43.setTop (mkF m 106 #[.val (.int p1), .val (.ref b15), .val (.int ((p1 &&& (2147483647 : Int32)) % (14 : Int32))), .unset] []))
  rcases own_of14 p1 with hq | hq | hq | hq | hq | hq | hq | hq | hq | hq | hq | hq | hq | hq
  · -- case 0
    rw [hq]
    show own_End p e below _ (T43.setTop (mkF m 106 #[.val (.int p1), .val (.ref b15), .val (.int (0 : Int32)), .unset] []))
    refine own_by (fun _ k => XS.iloadN X43.here hx rfl (hb hby at_106) rfl k) ?_
    show own_End p e below _ (T43.setTop (mkF m 107 #[.val (.int p1), .val (.ref b15), .val (.int (0 : Int32)), .unset] [(.int (0 : Int32))]))
    refine own_by (fun _ k => XS.bipush X43.here hx rfl (hb hby at_107) k) ?_
    show own_End p e below _ (T43.setTop (mkF m 109 #[.val (.int p1), .val (.ref b15), .val (.int (0 : Int32)), .unset] [(.int (10 : Int32)), (.int (0 : Int32))]))
    refine own_by (fun _ k => XS.icmpNo X43.here hx rfl (hb hby at_109) rfl (tlt (by decide)).2.1 k) ?_
    show own_End p e below _ (T43.setTop (mkF m 112 #[.val (.int p1), .val (.ref b15), .val (.int (0 : Int32)), .unset] []))
    refine own_by (fun _ k => XS.iconst X43.here hx rfl (hb hby at_112) k) ?_
    show own_End p e below _ (T43.setTop (mkF m 113 #[.val (.int p1), .val (.ref b15), .val (.int (0 : Int32)), .unset] [(.int (1 : Int32))]))
    refine own_by (fun _ k => XS.goto X43.here hx rfl (pc0 := 113) (pc' := 117) rfl (hb hby at_113) (by decide) (by decide) k) ?_
    show own_End p e below _ (T43.setTop (mkF m 117 #[.val (.int p1), .val (.ref b15), .val (.int (0 : Int32)), .unset] [(.int (1 : Int32))]))
    refine own_by (fun _ k => XS.istoreN X43.here hx rfl (hb hby at_117) rfl (l' := #[.val (.int p1), .val (.ref b15), .val (.int (0 : Int32)), .val (.int (1 : Int32))]) rfl k) ?_
    show own_End p e below _ (T43.setTop (mkF m 118 #[.val (.int p1), .val (.ref b15), .val (.int (0 : Int32)), .val (.int (1 : Int32))] []))
    refine own_by (fun _ k => XS.aloadN X43.here hx rfl (hb hby at_118) rfl rfl k) ?_
    show own_End p e below _ (T43.setTop (mkF m 119 #[.val (.int p1), .val (.ref b15), .val (.int (0 : Int32)), .val (.int (1 : Int32))] [(.ref b15)]))
    refine own_by (fun _ k => XS.iloadN X43.here hx rfl (hb hby at_119) rfl k) ?_
    show own_End p e below _ (T43.setTop (mkF m 120 #[.val (.int p1), .val (.ref b15), .val (.int (0 : Int32)), .val (.int (1 : Int32))] [(.int (0 : Int32)), (.ref b15)]))
    obtain ⟨cl44, Ar44, -, S44, M44, Hs44, -⟩ := V43_b15
    have hin44 : ¬ ((0 : Int32) < 0 ∨ cl44.slots.size ≤ ((0 : Int32)).toNatClampNeg) := inb_of S44 ⟨by decide, by decide⟩
    refine own_by (fun _ k => X43.aaload hx (j := (0 : Int32)) (v := (.ref u0)) (by rw [e43]; exact Ar44.1) (State.isArrayOf_alike hZ.alike Ar44.2.1) rfl Ar44.2.2 hin44 (Has.at Hs44 hin44 rfl) (g := (mkF m 120 #[.val (.int p1), .val (.ref b15), .val (.int (0 : Int32)), .val (.int (1 : Int32))] [(.int (0 : Int32)), (.ref b15)])) rfl rfl (hb hby at_120) _ k) ?_
    show own_End p e below _ (T43.setTop (mkF m 121 #[.val (.int p1), .val (.ref b15), .val (.int (0 : Int32)), .val (.int (1 : Int32))] [(.ref u0)]))
    obtain ⟨cq45, kq45, q45a, q45b, q45c⟩ := isOf hZ e43 (E_u0.ext O43)
    obtain ⟨_, _, ⟨T45, L45, k45, n45⟩, -, X45, ⟨Lc45, hQ45, l45, y45, z45⟩, st45⟩ := X43.virtualBack hx (y := (⟨"com/example/tyche/tyche/lang/FilterExpression$Operator", "combines", "()Z"⟩ : MethodName)) (z := (⟨"com/example/tyche/tyche/lang/FilterExpression$Operator", "combines", "()Z"⟩ : MethodName)) hown (mvT hZ (hw _ (List.mem_of_getElem? (i := 33) rfl))) (mvT hZ (hw _ (List.mem_of_getElem? (i := 34) rfl))) (notFace_of_selects (args := #[]) (mvT hZ (hw _ (List.mem_of_getElem? (i := 36) rfl)))) (mvT hZ (hw _ (List.mem_of_getElem? (i := 36) rfl))) (mvT hZ (hw _ (List.mem_of_getElem? (i := 35) rfl))) (by decide) (own_back (W := 0) (own_combN l Z a0 hw [] u0 u10 u11 u12 u13 h43 n0 O43 S_u10 S_u11 S_u12 S_u13 (F_u0.ne F_u10 (by decide)) (F_u0.ne F_u11 (by decide)) (F_u0.ne F_u12 (by decide)) (F_u0.ne F_u13 (by decide))) hZ (hw _ (List.mem_of_getElem? (i := 37) rfl)) (hw _ (List.mem_of_getElem? (i := 3) rfl)) (by decide) (by decide)) q45a q45c (g := (mkF m 121 #[.val (.int p1), .val (.ref b15), .val (.int (0 : Int32)), .val (.int (1 : Int32))] [(.ref u0)])) rfl (by rw [hml]; rfl) (Steps.refl _) (argsL := []) (rest := []) (lenOf own_pd0 rfl) rfl (by show 2 * 0 + _ ≤ _; exact Nat.le_of_eq rfl) (hb hby at_121) (fun _ _ => ⟨rfl, e43, (by decide : 1 + 0 ≤ _), (by decide : 14 + 0 ≤ _)⟩)
    dsimp only [Pt.U, Pt.locs, Pt.cells, Pt.slots] at X45 l45 y45 z45 st45 hQ45
    subst l45 y45 z45
    obtain ⟨rfl, N45q, e45⟩ := hQ45
    have N45 := Fr.app N43 N45q
    refine own_by (fun _ k => st45.trans k) ?_
    show own_End p e below _ (T45.setTop (mkF m 124 #[.val (.int p1), .val (.ref b15), .val (.int (0 : Int32)), .val (.int (1 : Int32))] [(.int (1 : Int32))]))
    refine own_by (fun _ k => XS.iloadN X45.here hx rfl (hb hby at_124) rfl k) ?_
    show own_End p e below _ (T45.setTop (mkF m 125 #[.val (.int p1), .val (.ref b15), .val (.int (0 : Int32)), .val (.int (1 : Int32))] [(.int (1 : Int32)), (.int (1 : Int32))]))
    refine own_by (fun _ k => XS.icmpNo X45.here hx rfl (hb hby at_125) rfl (teq (by decide)).2 k) ?_
    show own_End p e below _ (T45.setTop (mkF m 128 #[.val (.int p1), .val (.ref b15), .val (.int (0 : Int32)), .val (.int (1 : Int32))] []))
    refine own_by (fun _ k => XS.iconst X45.here hx rfl (hb hby at_128) k) ?_
    show own_End p e below _ (T45.setTop (mkF m 129 #[.val (.int p1), .val (.ref b15), .val (.int (0 : Int32)), .val (.int (1 : Int32))] [(.int (1 : Int32))]))
    refine own_by (fun _ k => XS.goto X45.here hx rfl (pc0 := 129) (pc' := 133) rfl (hb hby at_129) (by decide) (by decide) k) ?_
    show own_End p e below _ (T45.setTop (mkF m 133 #[.val (.int p1), .val (.ref b15), .val (.int (0 : Int32)), .val (.int (1 : Int32))] [(.int (1 : Int32))]))
    obtain ⟨fs, hr, hrun, hended, hW, hsame⟩ := X45.leave (v := (some (.int (1 : Int32)))) (fun h => by rw [Bd.returns] at h; cases h)
    refine ⟨_, _, retN X45 hx (t := .boolean) Bd.returns (by simp) (hb hby at_133) hr, hrun, hended, _, _, rfl, ?_, ⟨_, rfl⟩, hW, hsame.mono (by decide) (by decide)⟩
    exact ⟨rfl, N45⟩
  · -- case 1
    rw [hq]
    show own_End p e below _ (T43.setTop (mkF m 106 #[.val (.int p1), .val (.ref b15), .val (.int (1 : Int32)), .unset] []))
    refine own_by (fun _ k => XS.iloadN X43.here hx rfl (hb hby at_106) rfl k) ?_
    show own_End p e below _ (T43.setTop (mkF m 107 #[.val (.int p1), .val (.ref b15), .val (.int (1 : Int32)), .unset] [(.int (1 : Int32))]))
    refine own_by (fun _ k => XS.bipush X43.here hx rfl (hb hby at_107) k) ?_
    show own_End p e below _ (T43.setTop (mkF m 109 #[.val (.int p1), .val (.ref b15), .val (.int (1 : Int32)), .unset] [(.int (10 : Int32)), (.int (1 : Int32))]))
    refine own_by (fun _ k => XS.icmpNo X43.here hx rfl (hb hby at_109) rfl (tlt (by decide)).2.1 k) ?_
    show own_End p e below _ (T43.setTop (mkF m 112 #[.val (.int p1), .val (.ref b15), .val (.int (1 : Int32)), .unset] []))
    refine own_by (fun _ k => XS.iconst X43.here hx rfl (hb hby at_112) k) ?_
    show own_End p e below _ (T43.setTop (mkF m 113 #[.val (.int p1), .val (.ref b15), .val (.int (1 : Int32)), .unset] [(.int (1 : Int32))]))
    refine own_by (fun _ k => XS.goto X43.here hx rfl (pc0 := 113) (pc' := 117) rfl (hb hby at_113) (by decide) (by decide) k) ?_
    show own_End p e below _ (T43.setTop (mkF m 117 #[.val (.int p1), .val (.ref b15), .val (.int (1 : Int32)), .unset] [(.int (1 : Int32))]))
    refine own_by (fun _ k => XS.istoreN X43.here hx rfl (hb hby at_117) rfl (l' := #[.val (.int p1), .val (.ref b15), .val (.int (1 : Int32)), .val (.int (1 : Int32))]) rfl k) ?_
    show own_End p e below _ (T43.setTop (mkF m 118 #[.val (.int p1), .val (.ref b15), .val (.int (1 : Int32)), .val (.int (1 : Int32))] []))
    refine own_by (fun _ k => XS.aloadN X43.here hx rfl (hb hby at_118) rfl rfl k) ?_
    show own_End p e below _ (T43.setTop (mkF m 119 #[.val (.int p1), .val (.ref b15), .val (.int (1 : Int32)), .val (.int (1 : Int32))] [(.ref b15)]))
    refine own_by (fun _ k => XS.iloadN X43.here hx rfl (hb hby at_119) rfl k) ?_
    show own_End p e below _ (T43.setTop (mkF m 120 #[.val (.int p1), .val (.ref b15), .val (.int (1 : Int32)), .val (.int (1 : Int32))] [(.int (1 : Int32)), (.ref b15)]))
    obtain ⟨cl46, Ar46, -, S46, M46, Hs46, -⟩ := V43_b15
    have hin46 : ¬ ((1 : Int32) < 0 ∨ cl46.slots.size ≤ ((1 : Int32)).toNatClampNeg) := inb_of S46 ⟨by decide, by decide⟩
    refine own_by (fun _ k => X43.aaload hx (j := (1 : Int32)) (v := (.ref u1)) (by rw [e43]; exact Ar46.1) (State.isArrayOf_alike hZ.alike Ar46.2.1) rfl Ar46.2.2 hin46 (Has.at Hs46 hin46 rfl) (g := (mkF m 120 #[.val (.int p1), .val (.ref b15), .val (.int (1 : Int32)), .val (.int (1 : Int32))] [(.int (1 : Int32)), (.ref b15)])) rfl rfl (hb hby at_120) _ k) ?_
    show own_End p e below _ (T43.setTop (mkF m 121 #[.val (.int p1), .val (.ref b15), .val (.int (1 : Int32)), .val (.int (1 : Int32))] [(.ref u1)]))
    obtain ⟨cq47, kq47, q47a, q47b, q47c⟩ := isOf hZ e43 (E_u1.ext O43)
    obtain ⟨_, _, ⟨T47, L47, k47, n47⟩, -, X47, ⟨Lc47, hQ47, l47, y47, z47⟩, st47⟩ := X43.virtualBack hx (y := (⟨"com/example/tyche/tyche/lang/FilterExpression$Operator", "combines", "()Z"⟩ : MethodName)) (z := (⟨"com/example/tyche/tyche/lang/FilterExpression$Operator", "combines", "()Z"⟩ : MethodName)) hown (mvT hZ (hw _ (List.mem_of_getElem? (i := 33) rfl))) (mvT hZ (hw _ (List.mem_of_getElem? (i := 34) rfl))) (notFace_of_selects (args := #[]) (mvT hZ (hw _ (List.mem_of_getElem? (i := 36) rfl)))) (mvT hZ (hw _ (List.mem_of_getElem? (i := 36) rfl))) (mvT hZ (hw _ (List.mem_of_getElem? (i := 35) rfl))) (by decide) (own_back (W := 0) (own_combN l Z a0 hw [] u1 u10 u11 u12 u13 h43 n0 O43 S_u10 S_u11 S_u12 S_u13 (F_u1.ne F_u10 (by decide)) (F_u1.ne F_u11 (by decide)) (F_u1.ne F_u12 (by decide)) (F_u1.ne F_u13 (by decide))) hZ (hw _ (List.mem_of_getElem? (i := 37) rfl)) (hw _ (List.mem_of_getElem? (i := 3) rfl)) (by decide) (by decide)) q47a q47c (g := (mkF m 121 #[.val (.int p1), .val (.ref b15), .val (.int (1 : Int32)), .val (.int (1 : Int32))] [(.ref u1)])) rfl (by rw [hml]; rfl) (Steps.refl _) (argsL := []) (rest := []) (lenOf own_pd0 rfl) rfl (by show 2 * 0 + _ ≤ _; exact Nat.le_of_eq rfl) (hb hby at_121) (fun _ _ => ⟨rfl, e43, (by decide : 1 + 0 ≤ _), (by decide : 14 + 0 ≤ _)⟩)
    dsimp only [Pt.U, Pt.locs, Pt.cells, Pt.slots] at X47 l47 y47 z47 st47 hQ47
    subst l47 y47 z47
    obtain ⟨rfl, N47q, e47⟩ := hQ47
    have N47 := Fr.app N43 N47q
    refine own_by (fun _ k => st47.trans k) ?_
    show own_End p e below _ (T47.setTop (mkF m 124 #[.val (.int p1), .val (.ref b15), .val (.int (1 : Int32)), .val (.int (1 : Int32))] [(.int (1 : Int32))]))
    refine own_by (fun _ k => XS.iloadN X47.here hx rfl (hb hby at_124) rfl k) ?_
    show own_End p e below _ (T47.setTop (mkF m 125 #[.val (.int p1), .val (.ref b15), .val (.int (1 : Int32)), .val (.int (1 : Int32))] [(.int (1 : Int32)), (.int (1 : Int32))]))
    refine own_by (fun _ k => XS.icmpNo X47.here hx rfl (hb hby at_125) rfl (teq (by decide)).2 k) ?_
    show own_End p e below _ (T47.setTop (mkF m 128 #[.val (.int p1), .val (.ref b15), .val (.int (1 : Int32)), .val (.int (1 : Int32))] []))
    refine own_by (fun _ k => XS.iconst X47.here hx rfl (hb hby at_128) k) ?_
    show own_End p e below _ (T47.setTop (mkF m 129 #[.val (.int p1), .val (.ref b15), .val (.int (1 : Int32)), .val (.int (1 : Int32))] [(.int (1 : Int32))]))
    refine own_by (fun _ k => XS.goto X47.here hx rfl (pc0 := 129) (pc' := 133) rfl (hb hby at_129) (by decide) (by decide) k) ?_
    show own_End p e below _ (T47.setTop (mkF m 133 #[.val (.int p1), .val (.ref b15), .val (.int (1 : Int32)), .val (.int (1 : Int32))] [(.int (1 : Int32))]))
    obtain ⟨fs, hr, hrun, hended, hW, hsame⟩ := X47.leave (v := (some (.int (1 : Int32)))) (fun h => by rw [Bd.returns] at h; cases h)
    refine ⟨_, _, retN X47 hx (t := .boolean) Bd.returns (by simp) (hb hby at_133) hr, hrun, hended, _, _, rfl, ?_, ⟨_, rfl⟩, hW, hsame.mono (by decide) (by decide)⟩
    exact ⟨rfl, N47⟩
  · -- case 2
    rw [hq]
    show own_End p e below _ (T43.setTop (mkF m 106 #[.val (.int p1), .val (.ref b15), .val (.int (2 : Int32)), .unset] []))
    refine own_by (fun _ k => XS.iloadN X43.here hx rfl (hb hby at_106) rfl k) ?_
    show own_End p e below _ (T43.setTop (mkF m 107 #[.val (.int p1), .val (.ref b15), .val (.int (2 : Int32)), .unset] [(.int (2 : Int32))]))
    refine own_by (fun _ k => XS.bipush X43.here hx rfl (hb hby at_107) k) ?_
    show own_End p e below _ (T43.setTop (mkF m 109 #[.val (.int p1), .val (.ref b15), .val (.int (2 : Int32)), .unset] [(.int (10 : Int32)), (.int (2 : Int32))]))
    refine own_by (fun _ k => XS.icmpNo X43.here hx rfl (hb hby at_109) rfl (tlt (by decide)).2.1 k) ?_
    show own_End p e below _ (T43.setTop (mkF m 112 #[.val (.int p1), .val (.ref b15), .val (.int (2 : Int32)), .unset] []))
    refine own_by (fun _ k => XS.iconst X43.here hx rfl (hb hby at_112) k) ?_
    show own_End p e below _ (T43.setTop (mkF m 113 #[.val (.int p1), .val (.ref b15), .val (.int (2 : Int32)), .unset] [(.int (1 : Int32))]))
    refine own_by (fun _ k => XS.goto X43.here hx rfl (pc0 := 113) (pc' := 117) rfl (hb hby at_113) (by decide) (by decide) k) ?_
    show own_End p e below _ (T43.setTop (mkF m 117 #[.val (.int p1), .val (.ref b15), .val (.int (2 : Int32)), .unset] [(.int (1 : Int32))]))
    refine own_by (fun _ k => XS.istoreN X43.here hx rfl (hb hby at_117) rfl (l' := #[.val (.int p1), .val (.ref b15), .val (.int (2 : Int32)), .val (.int (1 : Int32))]) rfl k) ?_
    show own_End p e below _ (T43.setTop (mkF m 118 #[.val (.int p1), .val (.ref b15), .val (.int (2 : Int32)), .val (.int (1 : Int32))] []))
    refine own_by (fun _ k => XS.aloadN X43.here hx rfl (hb hby at_118) rfl rfl k) ?_
    show own_End p e below _ (T43.setTop (mkF m 119 #[.val (.int p1), .val (.ref b15), .val (.int (2 : Int32)), .val (.int (1 : Int32))] [(.ref b15)]))
    refine own_by (fun _ k => XS.iloadN X43.here hx rfl (hb hby at_119) rfl k) ?_
    show own_End p e below _ (T43.setTop (mkF m 120 #[.val (.int p1), .val (.ref b15), .val (.int (2 : Int32)), .val (.int (1 : Int32))] [(.int (2 : Int32)), (.ref b15)]))
    obtain ⟨cl48, Ar48, -, S48, M48, Hs48, -⟩ := V43_b15
    have hin48 : ¬ ((2 : Int32) < 0 ∨ cl48.slots.size ≤ ((2 : Int32)).toNatClampNeg) := inb_of S48 ⟨by decide, by decide⟩
    refine own_by (fun _ k => X43.aaload hx (j := (2 : Int32)) (v := (.ref u2)) (by rw [e43]; exact Ar48.1) (State.isArrayOf_alike hZ.alike Ar48.2.1) rfl Ar48.2.2 hin48 (Has.at Hs48 hin48 rfl) (g := (mkF m 120 #[.val (.int p1), .val (.ref b15), .val (.int (2 : Int32)), .val (.int (1 : Int32))] [(.int (2 : Int32)), (.ref b15)])) rfl rfl (hb hby at_120) _ k) ?_
    show own_End p e below _ (T43.setTop (mkF m 121 #[.val (.int p1), .val (.ref b15), .val (.int (2 : Int32)), .val (.int (1 : Int32))] [(.ref u2)]))
    obtain ⟨cq49, kq49, q49a, q49b, q49c⟩ := isOf hZ e43 (E_u2.ext O43)
    obtain ⟨_, _, ⟨T49, L49, k49, n49⟩, -, X49, ⟨Lc49, hQ49, l49, y49, z49⟩, st49⟩ := X43.virtualBack hx (y := (⟨"com/example/tyche/tyche/lang/FilterExpression$Operator", "combines", "()Z"⟩ : MethodName)) (z := (⟨"com/example/tyche/tyche/lang/FilterExpression$Operator", "combines", "()Z"⟩ : MethodName)) hown (mvT hZ (hw _ (List.mem_of_getElem? (i := 33) rfl))) (mvT hZ (hw _ (List.mem_of_getElem? (i := 34) rfl))) (notFace_of_selects (args := #[]) (mvT hZ (hw _ (List.mem_of_getElem? (i := 36) rfl)))) (mvT hZ (hw _ (List.mem_of_getElem? (i := 36) rfl))) (mvT hZ (hw _ (List.mem_of_getElem? (i := 35) rfl))) (by decide) (own_back (W := 0) (own_combN l Z a0 hw [] u2 u10 u11 u12 u13 h43 n0 O43 S_u10 S_u11 S_u12 S_u13 (F_u2.ne F_u10 (by decide)) (F_u2.ne F_u11 (by decide)) (F_u2.ne F_u12 (by decide)) (F_u2.ne F_u13 (by decide))) hZ (hw _ (List.mem_of_getElem? (i := 37) rfl)) (hw _ (List.mem_of_getElem? (i := 3) rfl)) (by decide) (by decide)) q49a q49c (g := (mkF m 121 #[.val (.int p1), .val (.ref b15), .val (.int (2 : Int32)), .val (.int (1 : Int32))] [(.ref u2)])) rfl (by rw [hml]; rfl) (Steps.refl _) (argsL := []) (rest := []) (lenOf own_pd0 rfl) rfl (by show 2 * 0 + _ ≤ _; exact Nat.le_of_eq rfl) (hb hby at_121) (fun _ _ => ⟨rfl, e43, (by decide : 1 + 0 ≤ _), (by decide : 14 + 0 ≤ _)⟩)
    dsimp only [Pt.U, Pt.locs, Pt.cells, Pt.slots] at X49 l49 y49 z49 st49 hQ49
    subst l49 y49 z49
    obtain ⟨rfl, N49q, e49⟩ := hQ49
    have N49 := Fr.app N43 N49q
    refine own_by (fun _ k => st49.trans k) ?_
    show own_End p e below _ (T49.setTop (mkF m 124 #[.val (.int p1), .val (.ref b15), .val (.int (2 : Int32)), .val (.int (1 : Int32))] [(.int (1 : Int32))]))
    refine own_by (fun _ k => XS.iloadN X49.here hx rfl (hb hby at_124) rfl k) ?_
    show own_End p e below _ (T49.setTop (mkF m 125 #[.val (.int p1), .val (.ref b15), .val (.int (2 : Int32)), .val (.int (1 : Int32))] [(.int (1 : Int32)), (.int (1 : Int32))]))
    refine own_by (fun _ k => XS.icmpNo X49.here hx rfl (hb hby at_125) rfl (teq (by decide)).2 k) ?_
    show own_End p e below _ (T49.setTop (mkF m 128 #[.val (.int p1), .val (.ref b15), .val (.int (2 : Int32)), .val (.int (1 : Int32))] []))
    refine own_by (fun _ k => XS.iconst X49.here hx rfl (hb hby at_128) k) ?_
    show own_End p e below _ (T49.setTop (mkF m 129 #[.val (.int p1), .val (.ref b15), .val (.int (2 : Int32)), .val (.int (1 : Int32))] [(.int (1 : Int32))]))
    refine own_by (fun _ k => XS.goto X49.here hx rfl (pc0 := 129) (pc' := 133) rfl (hb hby at_129) (by decide) (by decide) k) ?_
    show own_End p e below _ (T49.setTop (mkF m 133 #[.val (.int p1), .val (.ref b15), .val (.int (2 : Int32)), .val (.int (1 : Int32))] [(.int (1 : Int32))]))
    obtain ⟨fs, hr, hrun, hended, hW, hsame⟩ := X49.leave (v := (some (.int (1 : Int32)))) (fun h => by rw [Bd.returns] at h; cases h)
    refine ⟨_, _, retN X49 hx (t := .boolean) Bd.returns (by simp) (hb hby at_133) hr, hrun, hended, _, _, rfl, ?_, ⟨_, rfl⟩, hW, hsame.mono (by decide) (by decide)⟩
    exact ⟨rfl, N49⟩
  · -- case 3
    rw [hq]
    show own_End p e below _ (T43.setTop (mkF m 106 #[.val (.int p1), .val (.ref b15), .val (.int (3 : Int32)), .unset] []))
    refine own_by (fun _ k => XS.iloadN X43.here hx rfl (hb hby at_106) rfl k) ?_
    show own_End p e below _ (T43.setTop (mkF m 107 #[.val (.int p1), .val (.ref b15), .val (.int (3 : Int32)), .unset] [(.int (3 : Int32))]))
    refine own_by (fun _ k => XS.bipush X43.here hx rfl (hb hby at_107) k) ?_
    show own_End p e below _ (T43.setTop (mkF m 109 #[.val (.int p1), .val (.ref b15), .val (.int (3 : Int32)), .unset] [(.int (10 : Int32)), (.int (3 : Int32))]))
    refine own_by (fun _ k => XS.icmpNo X43.here hx rfl (hb hby at_109) rfl (tlt (by decide)).2.1 k) ?_
    show own_End p e below _ (T43.setTop (mkF m 112 #[.val (.int p1), .val (.ref b15), .val (.int (3 : Int32)), .unset] []))
    refine own_by (fun _ k => XS.iconst X43.here hx rfl (hb hby at_112) k) ?_
    show own_End p e below _ (T43.setTop (mkF m 113 #[.val (.int p1), .val (.ref b15), .val (.int (3 : Int32)), .unset] [(.int (1 : Int32))]))
    refine own_by (fun _ k => XS.goto X43.here hx rfl (pc0 := 113) (pc' := 117) rfl (hb hby at_113) (by decide) (by decide) k) ?_
    show own_End p e below _ (T43.setTop (mkF m 117 #[.val (.int p1), .val (.ref b15), .val (.int (3 : Int32)), .unset] [(.int (1 : Int32))]))
    refine own_by (fun _ k => XS.istoreN X43.here hx rfl (hb hby at_117) rfl (l' := #[.val (.int p1), .val (.ref b15), .val (.int (3 : Int32)), .val (.int (1 : Int32))]) rfl k) ?_
    show own_End p e below _ (T43.setTop (mkF m 118 #[.val (.int p1), .val (.ref b15), .val (.int (3 : Int32)), .val (.int (1 : Int32))] []))
    refine own_by (fun _ k => XS.aloadN X43.here hx rfl (hb hby at_118) rfl rfl k) ?_
    show own_End p e below _ (T43.setTop (mkF m 119 #[.val (.int p1), .val (.ref b15), .val (.int (3 : Int32)), .val (.int (1 : Int32))] [(.ref b15)]))
    refine own_by (fun _ k => XS.iloadN X43.here hx rfl (hb hby at_119) rfl k) ?_
    show own_End p e below _ (T43.setTop (mkF m 120 #[.val (.int p1), .val (.ref b15), .val (.int (3 : Int32)), .val (.int (1 : Int32))] [(.int (3 : Int32)), (.ref b15)]))
    obtain ⟨cl50, Ar50, -, S50, M50, Hs50, -⟩ := V43_b15
    have hin50 : ¬ ((3 : Int32) < 0 ∨ cl50.slots.size ≤ ((3 : Int32)).toNatClampNeg) := inb_of S50 ⟨by decide, by decide⟩
    refine own_by (fun _ k => X43.aaload hx (j := (3 : Int32)) (v := (.ref u3)) (by rw [e43]; exact Ar50.1) (State.isArrayOf_alike hZ.alike Ar50.2.1) rfl Ar50.2.2 hin50 (Has.at Hs50 hin50 rfl) (g := (mkF m 120 #[.val (.int p1), .val (.ref b15), .val (.int (3 : Int32)), .val (.int (1 : Int32))] [(.int (3 : Int32)), (.ref b15)])) rfl rfl (hb hby at_120) _ k) ?_
    show own_End p e below _ (T43.setTop (mkF m 121 #[.val (.int p1), .val (.ref b15), .val (.int (3 : Int32)), .val (.int (1 : Int32))] [(.ref u3)]))
    obtain ⟨cq51, kq51, q51a, q51b, q51c⟩ := isOf hZ e43 (E_u3.ext O43)
    obtain ⟨_, _, ⟨T51, L51, k51, n51⟩, -, X51, ⟨Lc51, hQ51, l51, y51, z51⟩, st51⟩ := X43.virtualBack hx (y := (⟨"com/example/tyche/tyche/lang/FilterExpression$Operator", "combines", "()Z"⟩ : MethodName)) (z := (⟨"com/example/tyche/tyche/lang/FilterExpression$Operator", "combines", "()Z"⟩ : MethodName)) hown (mvT hZ (hw _ (List.mem_of_getElem? (i := 33) rfl))) (mvT hZ (hw _ (List.mem_of_getElem? (i := 34) rfl))) (notFace_of_selects (args := #[]) (mvT hZ (hw _ (List.mem_of_getElem? (i := 36) rfl)))) (mvT hZ (hw _ (List.mem_of_getElem? (i := 36) rfl))) (mvT hZ (hw _ (List.mem_of_getElem? (i := 35) rfl))) (by decide) (own_back (W := 0) (own_combN l Z a0 hw [] u3 u10 u11 u12 u13 h43 n0 O43 S_u10 S_u11 S_u12 S_u13 (F_u3.ne F_u10 (by decide)) (F_u3.ne F_u11 (by decide)) (F_u3.ne F_u12 (by decide)) (F_u3.ne F_u13 (by decide))) hZ (hw _ (List.mem_of_getElem? (i := 37) rfl)) (hw _ (List.mem_of_getElem? (i := 3) rfl)) (by decide) (by decide)) q51a q51c (g := (mkF m 121 #[.val (.int p1), .val (.ref b15), .val (.int (3 : Int32)), .val (.int (1 : Int32))] [(.ref u3)])) rfl (by rw [hml]; rfl) (Steps.refl _) (argsL := []) (rest := []) (lenOf own_pd0 rfl) rfl (by show 2 * 0 + _ ≤ _; exact Nat.le_of_eq rfl) (hb hby at_121) (fun _ _ => ⟨rfl, e43, (by decide : 1 + 0 ≤ _), (by decide : 14 + 0 ≤ _)⟩)
    dsimp only [Pt.U, Pt.locs, Pt.cells, Pt.slots] at X51 l51 y51 z51 st51 hQ51
    subst l51 y51 z51
    obtain ⟨rfl, N51q, e51⟩ := hQ51
    have N51 := Fr.app N43 N51q
    refine own_by (fun _ k => st51.trans k) ?_
    show own_End p e below _ (T51.setTop (mkF m 124 #[.val (.int p1), .val (.ref b15), .val (.int (3 : Int32)), .val (.int (1 : Int32))] [(.int (1 : Int32))]))
    refine own_by (fun _ k => XS.iloadN X51.here hx rfl (hb hby at_124) rfl k) ?_
    show own_End p e below _ (T51.setTop (mkF m 125 #[.val (.int p1), .val (.ref b15), .val (.int (3 : Int32)), .val (.int (1 : Int32))] [(.int (1 : Int32)), (.int (1 : Int32))]))
    refine own_by (fun _ k => XS.icmpNo X51.here hx rfl (hb hby at_125) rfl (teq (by decide)).2 k) ?_
    show own_End p e below _ (T51.setTop (mkF m 128 #[.val (.int p1), .val (.ref b15), .val (.int (3 : Int32)), .val (.int (1 : Int32))] []))
    refine own_by (fun _ k => XS.iconst X51.here hx rfl (hb hby at_128) k) ?_
    show own_End p e below _ (T51.setTop (mkF m 129 #[.val (.int p1), .val (.ref b15), .val (.int (3 : Int32)), .val (.int (1 : Int32))] [(.int (1 : Int32))]))
    refine own_by (fun _ k => XS.goto X51.here hx rfl (pc0 := 129) (pc' := 133) rfl (hb hby at_129) (by decide) (by decide) k) ?_
    show own_End p e below _ (T51.setTop (mkF m 133 #[.val (.int p1), .val (.ref b15), .val (.int (3 : Int32)), .val (.int (1 : Int32))] [(.int (1 : Int32))]))
    obtain ⟨fs, hr, hrun, hended, hW, hsame⟩ := X51.leave (v := (some (.int (1 : Int32)))) (fun h => by rw [Bd.returns] at h; cases h)
    refine ⟨_, _, retN X51 hx (t := .boolean) Bd.returns (by simp) (hb hby at_133) hr, hrun, hended, _, _, rfl, ?_, ⟨_, rfl⟩, hW, hsame.mono (by decide) (by decide)⟩
    exact ⟨rfl, N51⟩
  · -- case 4
    rw [hq]
    show own_End p e below _ (T43.setTop (mkF m 106 #[.val (.int p1), .val (.ref b15), .val (.int (4 : Int32)), .unset] []))
    refine own_by (fun _ k => XS.iloadN X43.here hx rfl (hb hby at_106) rfl k) ?_
    show own_End p e below _ (T43.setTop (mkF m 107 #[.val (.int p1), .val (.ref b15), .val (.int (4 : Int32)), .unset] [(.int (4 : Int32))]))
    refine own_by (fun _ k => XS.bipush X43.here hx rfl (hb hby at_107) k) ?_
    show own_End p e below _ (T43.setTop (mkF m 109 #[.val (.int p1), .val (.ref b15), .val (.int (4 : Int32)), .unset] [(.int (10 : Int32)), (.int (4 : Int32))]))
    refine own_by (fun _ k => XS.icmpNo X43.here hx rfl (hb hby at_109) rfl (tlt (by decide)).2.1 k) ?_
    show own_End p e below _ (T43.setTop (mkF m 112 #[.val (.int p1), .val (.ref b15), .val (.int (4 : Int32)), .unset] []))
    refine own_by (fun _ k => XS.iconst X43.here hx rfl (hb hby at_112) k) ?_
    show own_End p e below _ (T43.setTop (mkF m 113 #[.val (.int p1), .val (.ref b15), .val (.int (4 : Int32)), .unset] [(.int (1 : Int32))]))
    refine own_by (fun _ k => XS.goto X43.here hx rfl (pc0 := 113) (pc' := 117) rfl (hb hby at_113) (by decide) (by decide) k) ?_
    show own_End p e below _ (T43.setTop (mkF m 117 #[.val (.int p1), .val (.ref b15), .val (.int (4 : Int32)), .unset] [(.int (1 : Int32))]))
    refine own_by (fun _ k => XS.istoreN X43.here hx rfl (hb hby at_117) rfl (l' := #[.val (.int p1), .val (.ref b15), .val (.int (4 : Int32)), .val (.int (1 : Int32))]) rfl k) ?_
    show own_End p e below _ (T43.setTop (mkF m 118 #[.val (.int p1), .val (.ref b15), .val (.int (4 : Int32)), .val (.int (1 : Int32))] []))
    refine own_by (fun _ k => XS.aloadN X43.here hx rfl (hb hby at_118) rfl rfl k) ?_
    show own_End p e below _ (T43.setTop (mkF m 119 #[.val (.int p1), .val (.ref b15), .val (.int (4 : Int32)), .val (.int (1 : Int32))] [(.ref b15)]))
    refine own_by (fun _ k => XS.iloadN X43.here hx rfl (hb hby at_119) rfl k) ?_
    show own_End p e below _ (T43.setTop (mkF m 120 #[.val (.int p1), .val (.ref b15), .val (.int (4 : Int32)), .val (.int (1 : Int32))] [(.int (4 : Int32)), (.ref b15)]))
    obtain ⟨cl52, Ar52, -, S52, M52, Hs52, -⟩ := V43_b15
    have hin52 : ¬ ((4 : Int32) < 0 ∨ cl52.slots.size ≤ ((4 : Int32)).toNatClampNeg) := inb_of S52 ⟨by decide, by decide⟩
    refine own_by (fun _ k => X43.aaload hx (j := (4 : Int32)) (v := (.ref u4)) (by rw [e43]; exact Ar52.1) (State.isArrayOf_alike hZ.alike Ar52.2.1) rfl Ar52.2.2 hin52 (Has.at Hs52 hin52 rfl) (g := (mkF m 120 #[.val (.int p1), .val (.ref b15), .val (.int (4 : Int32)), .val (.int (1 : Int32))] [(.int (4 : Int32)), (.ref b15)])) rfl rfl (hb hby at_120) _ k) ?_
    show own_End p e below _ (T43.setTop (mkF m 121 #[.val (.int p1), .val (.ref b15), .val (.int (4 : Int32)), .val (.int (1 : Int32))] [(.ref u4)]))
    obtain ⟨cq53, kq53, q53a, q53b, q53c⟩ := isOf hZ e43 (E_u4.ext O43)
    obtain ⟨_, _, ⟨T53, L53, k53, n53⟩, -, X53, ⟨Lc53, hQ53, l53, y53, z53⟩, st53⟩ := X43.virtualBack hx (y := (⟨"com/example/tyche/tyche/lang/FilterExpression$Operator", "combines", "()Z"⟩ : MethodName)) (z := (⟨"com/example/tyche/tyche/lang/FilterExpression$Operator", "combines", "()Z"⟩ : MethodName)) hown (mvT hZ (hw _ (List.mem_of_getElem? (i := 33) rfl))) (mvT hZ (hw _ (List.mem_of_getElem? (i := 34) rfl))) (notFace_of_selects (args := #[]) (mvT hZ (hw _ (List.mem_of_getElem? (i := 36) rfl)))) (mvT hZ (hw _ (List.mem_of_getElem? (i := 36) rfl))) (mvT hZ (hw _ (List.mem_of_getElem? (i := 35) rfl))) (by decide) (own_back (W := 0) (own_combN l Z a0 hw [] u4 u10 u11 u12 u13 h43 n0 O43 S_u10 S_u11 S_u12 S_u13 (F_u4.ne F_u10 (by decide)) (F_u4.ne F_u11 (by decide)) (F_u4.ne F_u12 (by decide)) (F_u4.ne F_u13 (by decide))) hZ (hw _ (List.mem_of_getElem? (i := 37) rfl)) (hw _ (List.mem_of_getElem? (i := 3) rfl)) (by decide) (by decide)) q53a q53c (g := (mkF m 121 #[.val (.int p1), .val (.ref b15), .val (.int (4 : Int32)), .val (.int (1 : Int32))] [(.ref u4)])) rfl (by rw [hml]; rfl) (Steps.refl _) (argsL := []) (rest := []) (lenOf own_pd0 rfl) rfl (by show 2 * 0 + _ ≤ _; exact Nat.le_of_eq rfl) (hb hby at_121) (fun _ _ => ⟨rfl, e43, (by decide : 1 + 0 ≤ _), (by decide : 14 + 0 ≤ _)⟩)
    dsimp only [Pt.U, Pt.locs, Pt.cells, Pt.slots] at X53 l53 y53 z53 st53 hQ53
    subst l53 y53 z53
    obtain ⟨rfl, N53q, e53⟩ := hQ53
    have N53 := Fr.app N43 N53q
    refine own_by (fun _ k => st53.trans k) ?_
    show own_End p e below _ (T53.setTop (mkF m 124 #[.val (.int p1), .val (.ref b15), .val (.int (4 : Int32)), .val (.int (1 : Int32))] [(.int (1 : Int32))]))
    refine own_by (fun _ k => XS.iloadN X53.here hx rfl (hb hby at_124) rfl k) ?_
    show own_End p e below _ (T53.setTop (mkF m 125 #[.val (.int p1), .val (.ref b15), .val (.int (4 : Int32)), .val (.int (1 : Int32))] [(.int (1 : Int32)), (.int (1 : Int32))]))
    refine own_by (fun _ k => XS.icmpNo X53.here hx rfl (hb hby at_125) rfl (teq (by decide)).2 k) ?_
    show own_End p e below _ (T53.setTop (mkF m 128 #[.val (.int p1), .val (.ref b15), .val (.int (4 : Int32)), .val (.int (1 : Int32))] []))
    refine own_by (fun _ k => XS.iconst X53.here hx rfl (hb hby at_128) k) ?_
    show own_End p e below _ (T53.setTop (mkF m 129 #[.val (.int p1), .val (.ref b15), .val (.int (4 : Int32)), .val (.int (1 : Int32))] [(.int (1 : Int32))]))
    refine own_by (fun _ k => XS.goto X53.here hx rfl (pc0 := 129) (pc' := 133) rfl (hb hby at_129) (by decide) (by decide) k) ?_
    show own_End p e below _ (T53.setTop (mkF m 133 #[.val (.int p1), .val (.ref b15), .val (.int (4 : Int32)), .val (.int (1 : Int32))] [(.int (1 : Int32))]))
    obtain ⟨fs, hr, hrun, hended, hW, hsame⟩ := X53.leave (v := (some (.int (1 : Int32)))) (fun h => by rw [Bd.returns] at h; cases h)
    refine ⟨_, _, retN X53 hx (t := .boolean) Bd.returns (by simp) (hb hby at_133) hr, hrun, hended, _, _, rfl, ?_, ⟨_, rfl⟩, hW, hsame.mono (by decide) (by decide)⟩
    exact ⟨rfl, N53⟩
  · -- case 5
    rw [hq]
    show own_End p e below _ (T43.setTop (mkF m 106 #[.val (.int p1), .val (.ref b15), .val (.int (5 : Int32)), .unset] []))
    refine own_by (fun _ k => XS.iloadN X43.here hx rfl (hb hby at_106) rfl k) ?_
    show own_End p e below _ (T43.setTop (mkF m 107 #[.val (.int p1), .val (.ref b15), .val (.int (5 : Int32)), .unset] [(.int (5 : Int32))]))
    refine own_by (fun _ k => XS.bipush X43.here hx rfl (hb hby at_107) k) ?_
    show own_End p e below _ (T43.setTop (mkF m 109 #[.val (.int p1), .val (.ref b15), .val (.int (5 : Int32)), .unset] [(.int (10 : Int32)), (.int (5 : Int32))]))
    refine own_by (fun _ k => XS.icmpNo X43.here hx rfl (hb hby at_109) rfl (tlt (by decide)).2.1 k) ?_
    show own_End p e below _ (T43.setTop (mkF m 112 #[.val (.int p1), .val (.ref b15), .val (.int (5 : Int32)), .unset] []))
    refine own_by (fun _ k => XS.iconst X43.here hx rfl (hb hby at_112) k) ?_
    show own_End p e below _ (T43.setTop (mkF m 113 #[.val (.int p1), .val (.ref b15), .val (.int (5 : Int32)), .unset] [(.int (1 : Int32))]))
    refine own_by (fun _ k => XS.goto X43.here hx rfl (pc0 := 113) (pc' := 117) rfl (hb hby at_113) (by decide) (by decide) k) ?_
    show own_End p e below _ (T43.setTop (mkF m 117 #[.val (.int p1), .val (.ref b15), .val (.int (5 : Int32)), .unset] [(.int (1 : Int32))]))
    refine own_by (fun _ k => XS.istoreN X43.here hx rfl (hb hby at_117) rfl (l' := #[.val (.int p1), .val (.ref b15), .val (.int (5 : Int32)), .val (.int (1 : Int32))]) rfl k) ?_
    show own_End p e below _ (T43.setTop (mkF m 118 #[.val (.int p1), .val (.ref b15), .val (.int (5 : Int32)), .val (.int (1 : Int32))] []))
    refine own_by (fun _ k => XS.aloadN X43.here hx rfl (hb hby at_118) rfl rfl k) ?_
    show own_End p e below _ (T43.setTop (mkF m 119 #[.val (.int p1), .val (.ref b15), .val (.int (5 : Int32)), .val (.int (1 : Int32))] [(.ref b15)]))
    refine own_by (fun _ k => XS.iloadN X43.here hx rfl (hb hby at_119) rfl k) ?_
    show own_End p e below _ (T43.setTop (mkF m 120 #[.val (.int p1), .val (.ref b15), .val (.int (5 : Int32)), .val (.int (1 : Int32))] [(.int (5 : Int32)), (.ref b15)]))
    obtain ⟨cl54, Ar54, -, S54, M54, Hs54, -⟩ := V43_b15
    have hin54 : ¬ ((5 : Int32) < 0 ∨ cl54.slots.size ≤ ((5 : Int32)).toNatClampNeg) := inb_of S54 ⟨by decide, by decide⟩
    refine own_by (fun _ k => X43.aaload hx (j := (5 : Int32)) (v := (.ref u5)) (by rw [e43]; exact Ar54.1) (State.isArrayOf_alike hZ.alike Ar54.2.1) rfl Ar54.2.2 hin54 (Has.at Hs54 hin54 rfl) (g := (mkF m 120 #[.val (.int p1), .val (.ref b15), .val (.int (5 : Int32)), .val (.int (1 : Int32))] [(.int (5 : Int32)), (.ref b15)])) rfl rfl (hb hby at_120) _ k) ?_
    show own_End p e below _ (T43.setTop (mkF m 121 #[.val (.int p1), .val (.ref b15), .val (.int (5 : Int32)), .val (.int (1 : Int32))] [(.ref u5)]))
    obtain ⟨cq55, kq55, q55a, q55b, q55c⟩ := isOf hZ e43 (E_u5.ext O43)
    obtain ⟨_, _, ⟨T55, L55, k55, n55⟩, -, X55, ⟨Lc55, hQ55, l55, y55, z55⟩, st55⟩ := X43.virtualBack hx (y := (⟨"com/example/tyche/tyche/lang/FilterExpression$Operator", "combines", "()Z"⟩ : MethodName)) (z := (⟨"com/example/tyche/tyche/lang/FilterExpression$Operator", "combines", "()Z"⟩ : MethodName)) hown (mvT hZ (hw _ (List.mem_of_getElem? (i := 33) rfl))) (mvT hZ (hw _ (List.mem_of_getElem? (i := 34) rfl))) (notFace_of_selects (args := #[]) (mvT hZ (hw _ (List.mem_of_getElem? (i := 36) rfl)))) (mvT hZ (hw _ (List.mem_of_getElem? (i := 36) rfl))) (mvT hZ (hw _ (List.mem_of_getElem? (i := 35) rfl))) (by decide) (own_back (W := 0) (own_combN l Z a0 hw [] u5 u10 u11 u12 u13 h43 n0 O43 S_u10 S_u11 S_u12 S_u13 (F_u5.ne F_u10 (by decide)) (F_u5.ne F_u11 (by decide)) (F_u5.ne F_u12 (by decide)) (F_u5.ne F_u13 (by decide))) hZ (hw _ (List.mem_of_getElem? (i := 37) rfl)) (hw _ (List.mem_of_getElem? (i := 3) rfl)) (by decide) (by decide)) q55a q55c (g := (mkF m 121 #[.val (.int p1), .val (.ref b15), .val (.int (5 : Int32)), .val (.int (1 : Int32))] [(.ref u5)])) rfl (by rw [hml]; rfl) (Steps.refl _) (argsL := []) (rest := []) (lenOf own_pd0 rfl) rfl (by show 2 * 0 + _ ≤ _; exact Nat.le_of_eq rfl) (hb hby at_121) (fun _ _ => ⟨rfl, e43, (by decide : 1 + 0 ≤ _), (by decide : 14 + 0 ≤ _)⟩)
    dsimp only [Pt.U, Pt.locs, Pt.cells, Pt.slots] at X55 l55 y55 z55 st55 hQ55
    subst l55 y55 z55
    obtain ⟨rfl, N55q, e55⟩ := hQ55
    have N55 := Fr.app N43 N55q
    refine own_by (fun _ k => st55.trans k) ?_
    show own_End p e below _ (T55.setTop (mkF m 124 #[.val (.int p1), .val (.ref b15), .val (.int (5 : Int32)), .val (.int (1 : Int32))] [(.int (1 : Int32))]))
    refine own_by (fun _ k => XS.iloadN X55.here hx rfl (hb hby at_124) rfl k) ?_
    show own_End p e below _ (T55.setTop (mkF m 125 #[.val (.int p1), .val (.ref b15), .val (.int (5 : Int32)), .val (.int (1 : Int32))] [(.int (1 : Int32)), (.int (1 : Int32))]))
    refine own_by (fun _ k => XS.icmpNo X55.here hx rfl (hb hby at_125) rfl (teq (by decide)).2 k) ?_
    show own_End p e below _ (T55.setTop (mkF m 128 #[.val (.int p1), .val (.ref b15), .val (.int (5 : Int32)), .val (.int (1 : Int32))] []))
    refine own_by (fun _ k => XS.iconst X55.here hx rfl (hb hby at_128) k) ?_
    show own_End p e below _ (T55.setTop (mkF m 129 #[.val (.int p1), .val (.ref b15), .val (.int (5 : Int32)), .val (.int (1 : Int32))] [(.int (1 : Int32))]))
    refine own_by (fun _ k => XS.goto X55.here hx rfl (pc0 := 129) (pc' := 133) rfl (hb hby at_129) (by decide) (by decide) k) ?_
    show own_End p e below _ (T55.setTop (mkF m 133 #[.val (.int p1), .val (.ref b15), .val (.int (5 : Int32)), .val (.int (1 : Int32))] [(.int (1 : Int32))]))
    obtain ⟨fs, hr, hrun, hended, hW, hsame⟩ := X55.leave (v := (some (.int (1 : Int32)))) (fun h => by rw [Bd.returns] at h; cases h)
    refine ⟨_, _, retN X55 hx (t := .boolean) Bd.returns (by simp) (hb hby at_133) hr, hrun, hended, _, _, rfl, ?_, ⟨_, rfl⟩, hW, hsame.mono (by decide) (by decide)⟩
    exact ⟨rfl, N55⟩
  · -- case 6
    rw [hq]
    show own_End p e below _ (T43.setTop (mkF m 106 #[.val (.int p1), .val (.ref b15), .val (.int (6 : Int32)), .unset] []))
    refine own_by (fun _ k => XS.iloadN X43.here hx rfl (hb hby at_106) rfl k) ?_
    show own_End p e below _ (T43.setTop (mkF m 107 #[.val (.int p1), .val (.ref b15), .val (.int (6 : Int32)), .unset] [(.int (6 : Int32))]))
    refine own_by (fun _ k => XS.bipush X43.here hx rfl (hb hby at_107) k) ?_
    show own_End p e below _ (T43.setTop (mkF m 109 #[.val (.int p1), .val (.ref b15), .val (.int (6 : Int32)), .unset] [(.int (10 : Int32)), (.int (6 : Int32))]))
    refine own_by (fun _ k => XS.icmpNo X43.here hx rfl (hb hby at_109) rfl (tlt (by decide)).2.1 k) ?_
    show own_End p e below _ (T43.setTop (mkF m 112 #[.val (.int p1), .val (.ref b15), .val (.int (6 : Int32)), .unset] []))
    refine own_by (fun _ k => XS.iconst X43.here hx rfl (hb hby at_112) k) ?_
    show own_End p e below _ (T43.setTop (mkF m 113 #[.val (.int p1), .val (.ref b15), .val (.int (6 : Int32)), .unset] [(.int (1 : Int32))]))
    refine own_by (fun _ k => XS.goto X43.here hx rfl (pc0 := 113) (pc' := 117) rfl (hb hby at_113) (by decide) (by decide) k) ?_
    show own_End p e below _ (T43.setTop (mkF m 117 #[.val (.int p1), .val (.ref b15), .val (.int (6 : Int32)), .unset] [(.int (1 : Int32))]))
    refine own_by (fun _ k => XS.istoreN X43.here hx rfl (hb hby at_117) rfl (l' := #[.val (.int p1), .val (.ref b15), .val (.int (6 : Int32)), .val (.int (1 : Int32))]) rfl k) ?_
    show own_End p e below _ (T43.setTop (mkF m 118 #[.val (.int p1), .val (.ref b15), .val (.int (6 : Int32)), .val (.int (1 : Int32))] []))
    refine own_by (fun _ k => XS.aloadN X43.here hx rfl (hb hby at_118) rfl rfl k) ?_
    show own_End p e below _ (T43.setTop (mkF m 119 #[.val (.int p1), .val (.ref b15), .val (.int (6 : Int32)), .val (.int (1 : Int32))] [(.ref b15)]))
    refine own_by (fun _ k => XS.iloadN X43.here hx rfl (hb hby at_119) rfl k) ?_
    show own_End p e below _ (T43.setTop (mkF m 120 #[.val (.int p1), .val (.ref b15), .val (.int (6 : Int32)), .val (.int (1 : Int32))] [(.int (6 : Int32)), (.ref b15)]))
    obtain ⟨cl56, Ar56, -, S56, M56, Hs56, -⟩ := V43_b15
    have hin56 : ¬ ((6 : Int32) < 0 ∨ cl56.slots.size ≤ ((6 : Int32)).toNatClampNeg) := inb_of S56 ⟨by decide, by decide⟩
    refine own_by (fun _ k => X43.aaload hx (j := (6 : Int32)) (v := (.ref u6)) (by rw [e43]; exact Ar56.1) (State.isArrayOf_alike hZ.alike Ar56.2.1) rfl Ar56.2.2 hin56 (Has.at Hs56 hin56 rfl) (g := (mkF m 120 #[.val (.int p1), .val (.ref b15), .val (.int (6 : Int32)), .val (.int (1 : Int32))] [(.int (6 : Int32)), (.ref b15)])) rfl rfl (hb hby at_120) _ k) ?_
    show own_End p e below _ (T43.setTop (mkF m 121 #[.val (.int p1), .val (.ref b15), .val (.int (6 : Int32)), .val (.int (1 : Int32))] [(.ref u6)]))
    obtain ⟨cq57, kq57, q57a, q57b, q57c⟩ := isOf hZ e43 (E_u6.ext O43)
    obtain ⟨_, _, ⟨T57, L57, k57, n57⟩, -, X57, ⟨Lc57, hQ57, l57, y57, z57⟩, st57⟩ := X43.virtualBack hx (y := (⟨"com/example/tyche/tyche/lang/FilterExpression$Operator", "combines", "()Z"⟩ : MethodName)) (z := (⟨"com/example/tyche/tyche/lang/FilterExpression$Operator", "combines", "()Z"⟩ : MethodName)) hown (mvT hZ (hw _ (List.mem_of_getElem? (i := 33) rfl))) (mvT hZ (hw _ (List.mem_of_getElem? (i := 34) rfl))) (notFace_of_selects (args := #[]) (mvT hZ (hw _ (List.mem_of_getElem? (i := 36) rfl)))) (mvT hZ (hw _ (List.mem_of_getElem? (i := 36) rfl))) (mvT hZ (hw _ (List.mem_of_getElem? (i := 35) rfl))) (by decide) (own_back (W := 0) (own_combN l Z a0 hw [] u6 u10 u11 u12 u13 h43 n0 O43 S_u10 S_u11 S_u12 S_u13 (F_u6.ne F_u10 (by decide)) (F_u6.ne F_u11 (by decide)) (F_u6.ne F_u12 (by decide)) (F_u6.ne F_u13 (by decide))) hZ (hw _ (List.mem_of_getElem? (i := 37) rfl)) (hw _ (List.mem_of_getElem? (i := 3) rfl)) (by decide) (by decide)) q57a q57c (g := (mkF m 121 #[.val (.int p1), .val (.ref b15), .val (.int (6 : Int32)), .val (.int (1 : Int32))] [(.ref u6)])) rfl (by rw [hml]; rfl) (Steps.refl _) (argsL := []) (rest := []) (lenOf own_pd0 rfl) rfl (by show 2 * 0 + _ ≤ _; exact Nat.le_of_eq rfl) (hb hby at_121) (fun _ _ => ⟨rfl, e43, (by decide : 1 + 0 ≤ _), (by decide : 14 + 0 ≤ _)⟩)
    dsimp only [Pt.U, Pt.locs, Pt.cells, Pt.slots] at X57 l57 y57 z57 st57 hQ57
    subst l57 y57 z57
    obtain ⟨rfl, N57q, e57⟩ := hQ57
    have N57 := Fr.app N43 N57q
    refine own_by (fun _ k => st57.trans k) ?_
    show own_End p e below _ (T57.setTop (mkF m 124 #[.val (.int p1), .val (.ref b15), .val (.int (6 : Int32)), .val (.int (1 : Int32))] [(.int (1 : Int32))]))
    refine own_by (fun _ k => XS.iloadN X57.here hx rfl (hb hby at_124) rfl k) ?_
    show own_End p e below _ (T57.setTop (mkF m 125 #[.val (.int p1), .val (.ref b15), .val (.int (6 : Int32)), .val (.int (1 : Int32))] [(.int (1 : Int32)), (.int (1 : Int32))]))
    refine own_by (fun _ k => XS.icmpNo X57.here hx rfl (hb hby at_125) rfl (teq (by decide)).2 k) ?_
    show own_End p e below _ (T57.setTop (mkF m 128 #[.val (.int p1), .val (.ref b15), .val (.int (6 : Int32)), .val (.int (1 : Int32))] []))
    refine own_by (fun _ k => XS.iconst X57.here hx rfl (hb hby at_128) k) ?_
    show own_End p e below _ (T57.setTop (mkF m 129 #[.val (.int p1), .val (.ref b15), .val (.int (6 : Int32)), .val (.int (1 : Int32))] [(.int (1 : Int32))]))
    refine own_by (fun _ k => XS.goto X57.here hx rfl (pc0 := 129) (pc' := 133) rfl (hb hby at_129) (by decide) (by decide) k) ?_
    show own_End p e below _ (T57.setTop (mkF m 133 #[.val (.int p1), .val (.ref b15), .val (.int (6 : Int32)), .val (.int (1 : Int32))] [(.int (1 : Int32))]))
    obtain ⟨fs, hr, hrun, hended, hW, hsame⟩ := X57.leave (v := (some (.int (1 : Int32)))) (fun h => by rw [Bd.returns] at h; cases h)
    refine ⟨_, _, retN X57 hx (t := .boolean) Bd.returns (by simp) (hb hby at_133) hr, hrun, hended, _, _, rfl, ?_, ⟨_, rfl⟩, hW, hsame.mono (by decide) (by decide)⟩
    exact ⟨rfl, N57⟩
  · -- case 7
    rw [hq]
    show own_End p e below _ (T43.setTop (mkF m 106 #[.val (.int p1), .val (.ref b15), .val (.int (7 : Int32)), .unset] []))
    refine own_by (fun _ k => XS.iloadN X43.here hx rfl (hb hby at_106) rfl k) ?_
    show own_End p e below _ (T43.setTop (mkF m 107 #[.val (.int p1), .val (.ref b15), .val (.int (7 : Int32)), .unset] [(.int (7 : Int32))]))
    refine own_by (fun _ k => XS.bipush X43.here hx rfl (hb hby at_107) k) ?_
    show own_End p e below _ (T43.setTop (mkF m 109 #[.val (.int p1), .val (.ref b15), .val (.int (7 : Int32)), .unset] [(.int (10 : Int32)), (.int (7 : Int32))]))
    refine own_by (fun _ k => XS.icmpNo X43.here hx rfl (hb hby at_109) rfl (tlt (by decide)).2.1 k) ?_
    show own_End p e below _ (T43.setTop (mkF m 112 #[.val (.int p1), .val (.ref b15), .val (.int (7 : Int32)), .unset] []))
    refine own_by (fun _ k => XS.iconst X43.here hx rfl (hb hby at_112) k) ?_
    show own_End p e below _ (T43.setTop (mkF m 113 #[.val (.int p1), .val (.ref b15), .val (.int (7 : Int32)), .unset] [(.int (1 : Int32))]))
    refine own_by (fun _ k => XS.goto X43.here hx rfl (pc0 := 113) (pc' := 117) rfl (hb hby at_113) (by decide) (by decide) k) ?_
    show own_End p e below _ (T43.setTop (mkF m 117 #[.val (.int p1), .val (.ref b15), .val (.int (7 : Int32)), .unset] [(.int (1 : Int32))]))
    refine own_by (fun _ k => XS.istoreN X43.here hx rfl (hb hby at_117) rfl (l' := #[.val (.int p1), .val (.ref b15), .val (.int (7 : Int32)), .val (.int (1 : Int32))]) rfl k) ?_
    show own_End p e below _ (T43.setTop (mkF m 118 #[.val (.int p1), .val (.ref b15), .val (.int (7 : Int32)), .val (.int (1 : Int32))] []))
    refine own_by (fun _ k => XS.aloadN X43.here hx rfl (hb hby at_118) rfl rfl k) ?_
    show own_End p e below _ (T43.setTop (mkF m 119 #[.val (.int p1), .val (.ref b15), .val (.int (7 : Int32)), .val (.int (1 : Int32))] [(.ref b15)]))
    refine own_by (fun _ k => XS.iloadN X43.here hx rfl (hb hby at_119) rfl k) ?_
    show own_End p e below _ (T43.setTop (mkF m 120 #[.val (.int p1), .val (.ref b15), .val (.int (7 : Int32)), .val (.int (1 : Int32))] [(.int (7 : Int32)), (.ref b15)]))
    obtain ⟨cl58, Ar58, -, S58, M58, Hs58, -⟩ := V43_b15
    have hin58 : ¬ ((7 : Int32) < 0 ∨ cl58.slots.size ≤ ((7 : Int32)).toNatClampNeg) := inb_of S58 ⟨by decide, by decide⟩
    refine own_by (fun _ k => X43.aaload hx (j := (7 : Int32)) (v := (.ref u7)) (by rw [e43]; exact Ar58.1) (State.isArrayOf_alike hZ.alike Ar58.2.1) rfl Ar58.2.2 hin58 (Has.at Hs58 hin58 rfl) (g := (mkF m 120 #[.val (.int p1), .val (.ref b15), .val (.int (7 : Int32)), .val (.int (1 : Int32))] [(.int (7 : Int32)), (.ref b15)])) rfl rfl (hb hby at_120) _ k) ?_
    show own_End p e below _ (T43.setTop (mkF m 121 #[.val (.int p1), .val (.ref b15), .val (.int (7 : Int32)), .val (.int (1 : Int32))] [(.ref u7)]))
    obtain ⟨cq59, kq59, q59a, q59b, q59c⟩ := isOf hZ e43 (E_u7.ext O43)
    obtain ⟨_, _, ⟨T59, L59, k59, n59⟩, -, X59, ⟨Lc59, hQ59, l59, y59, z59⟩, st59⟩ := X43.virtualBack hx (y := (⟨"com/example/tyche/tyche/lang/FilterExpression$Operator", "combines", "()Z"⟩ : MethodName)) (z := (⟨"com/example/tyche/tyche/lang/FilterExpression$Operator", "combines", "()Z"⟩ : MethodName)) hown (mvT hZ (hw _ (List.mem_of_getElem? (i := 33) rfl))) (mvT hZ (hw _ (List.mem_of_getElem? (i := 34) rfl))) (notFace_of_selects (args := #[]) (mvT hZ (hw _ (List.mem_of_getElem? (i := 36) rfl)))) (mvT hZ (hw _ (List.mem_of_getElem? (i := 36) rfl))) (mvT hZ (hw _ (List.mem_of_getElem? (i := 35) rfl))) (by decide) (own_back (W := 0) (own_combN l Z a0 hw [] u7 u10 u11 u12 u13 h43 n0 O43 S_u10 S_u11 S_u12 S_u13 (F_u7.ne F_u10 (by decide)) (F_u7.ne F_u11 (by decide)) (F_u7.ne F_u12 (by decide)) (F_u7.ne F_u13 (by decide))) hZ (hw _ (List.mem_of_getElem? (i := 37) rfl)) (hw _ (List.mem_of_getElem? (i := 3) rfl)) (by decide) (by decide)) q59a q59c (g := (mkF m 121 #[.val (.int p1), .val (.ref b15), .val (.int (7 : Int32)), .val (.int (1 : Int32))] [(.ref u7)])) rfl (by rw [hml]; rfl) (Steps.refl _) (argsL := []) (rest := []) (lenOf own_pd0 rfl) rfl (by show 2 * 0 + _ ≤ _; exact Nat.le_of_eq rfl) (hb hby at_121) (fun _ _ => ⟨rfl, e43, (by decide : 1 + 0 ≤ _), (by decide : 14 + 0 ≤ _)⟩)
    dsimp only [Pt.U, Pt.locs, Pt.cells, Pt.slots] at X59 l59 y59 z59 st59 hQ59
    subst l59 y59 z59
    obtain ⟨rfl, N59q, e59⟩ := hQ59
    have N59 := Fr.app N43 N59q
    refine own_by (fun _ k => st59.trans k) ?_
    show own_End p e below _ (T59.setTop (mkF m 124 #[.val (.int p1), .val (.ref b15), .val (.int (7 : Int32)), .val (.int (1 : Int32))] [(.int (1 : Int32))]))
    refine own_by (fun _ k => XS.iloadN X59.here hx rfl (hb hby at_124) rfl k) ?_
    show own_End p e below _ (T59.setTop (mkF m 125 #[.val (.int p1), .val (.ref b15), .val (.int (7 : Int32)), .val (.int (1 : Int32))] [(.int (1 : Int32)), (.int (1 : Int32))]))
    refine own_by (fun _ k => XS.icmpNo X59.here hx rfl (hb hby at_125) rfl (teq (by decide)).2 k) ?_
    show own_End p e below _ (T59.setTop (mkF m 128 #[.val (.int p1), .val (.ref b15), .val (.int (7 : Int32)), .val (.int (1 : Int32))] []))
    refine own_by (fun _ k => XS.iconst X59.here hx rfl (hb hby at_128) k) ?_
    show own_End p e below _ (T59.setTop (mkF m 129 #[.val (.int p1), .val (.ref b15), .val (.int (7 : Int32)), .val (.int (1 : Int32))] [(.int (1 : Int32))]))
    refine own_by (fun _ k => XS.goto X59.here hx rfl (pc0 := 129) (pc' := 133) rfl (hb hby at_129) (by decide) (by decide) k) ?_
    show own_End p e below _ (T59.setTop (mkF m 133 #[.val (.int p1), .val (.ref b15), .val (.int (7 : Int32)), .val (.int (1 : Int32))] [(.int (1 : Int32))]))
    obtain ⟨fs, hr, hrun, hended, hW, hsame⟩ := X59.leave (v := (some (.int (1 : Int32)))) (fun h => by rw [Bd.returns] at h; cases h)
    refine ⟨_, _, retN X59 hx (t := .boolean) Bd.returns (by simp) (hb hby at_133) hr, hrun, hended, _, _, rfl, ?_, ⟨_, rfl⟩, hW, hsame.mono (by decide) (by decide)⟩
    exact ⟨rfl, N59⟩
  · -- case 8
    rw [hq]
    show own_End p e below _ (T43.setTop (mkF m 106 #[.val (.int p1), .val (.ref b15), .val (.int (8 : Int32)), .unset] []))
    refine own_by (fun _ k => XS.iloadN X43.here hx rfl (hb hby at_106) rfl k) ?_
    show own_End p e below _ (T43.setTop (mkF m 107 #[.val (.int p1), .val (.ref b15), .val (.int (8 : Int32)), .unset] [(.int (8 : Int32))]))
    refine own_by (fun _ k => XS.bipush X43.here hx rfl (hb hby at_107) k) ?_
    show own_End p e below _ (T43.setTop (mkF m 109 #[.val (.int p1), .val (.ref b15), .val (.int (8 : Int32)), .unset] [(.int (10 : Int32)), (.int (8 : Int32))]))
    refine own_by (fun _ k => XS.icmpNo X43.here hx rfl (hb hby at_109) rfl (tlt (by decide)).2.1 k) ?_
    show own_End p e below _ (T43.setTop (mkF m 112 #[.val (.int p1), .val (.ref b15), .val (.int (8 : Int32)), .unset] []))
    refine own_by (fun _ k => XS.iconst X43.here hx rfl (hb hby at_112) k) ?_
    show own_End p e below _ (T43.setTop (mkF m 113 #[.val (.int p1), .val (.ref b15), .val (.int (8 : Int32)), .unset] [(.int (1 : Int32))]))
    refine own_by (fun _ k => XS.goto X43.here hx rfl (pc0 := 113) (pc' := 117) rfl (hb hby at_113) (by decide) (by decide) k) ?_
    show own_End p e below _ (T43.setTop (mkF m 117 #[.val (.int p1), .val (.ref b15), .val (.int (8 : Int32)), .unset] [(.int (1 : Int32))]))
    refine own_by (fun _ k => XS.istoreN X43.here hx rfl (hb hby at_117) rfl (l' := #[.val (.int p1), .val (.ref b15), .val (.int (8 : Int32)), .val (.int (1 : Int32))]) rfl k) ?_
    show own_End p e below _ (T43.setTop (mkF m 118 #[.val (.int p1), .val (.ref b15), .val (.int (8 : Int32)), .val (.int (1 : Int32))] []))
    refine own_by (fun _ k => XS.aloadN X43.here hx rfl (hb hby at_118) rfl rfl k) ?_
    show own_End p e below _ (T43.setTop (mkF m 119 #[.val (.int p1), .val (.ref b15), .val (.int (8 : Int32)), .val (.int (1 : Int32))] [(.ref b15)]))
    refine own_by (fun _ k => XS.iloadN X43.here hx rfl (hb hby at_119) rfl k) ?_
    show own_End p e below _ (T43.setTop (mkF m 120 #[.val (.int p1), .val (.ref b15), .val (.int (8 : Int32)), .val (.int (1 : Int32))] [(.int (8 : Int32)), (.ref b15)]))
    obtain ⟨cl60, Ar60, -, S60, M60, Hs60, -⟩ := V43_b15
    have hin60 : ¬ ((8 : Int32) < 0 ∨ cl60.slots.size ≤ ((8 : Int32)).toNatClampNeg) := inb_of S60 ⟨by decide, by decide⟩
    refine own_by (fun _ k => X43.aaload hx (j := (8 : Int32)) (v := (.ref u8)) (by rw [e43]; exact Ar60.1) (State.isArrayOf_alike hZ.alike Ar60.2.1) rfl Ar60.2.2 hin60 (Has.at Hs60 hin60 rfl) (g := (mkF m 120 #[.val (.int p1), .val (.ref b15), .val (.int (8 : Int32)), .val (.int (1 : Int32))] [(.int (8 : Int32)), (.ref b15)])) rfl rfl (hb hby at_120) _ k) ?_
    show own_End p e below _ (T43.setTop (mkF m 121 #[.val (.int p1), .val (.ref b15), .val (.int (8 : Int32)), .val (.int (1 : Int32))] [(.ref u8)]))
    obtain ⟨cq61, kq61, q61a, q61b, q61c⟩ := isOf hZ e43 (E_u8.ext O43)
    obtain ⟨_, _, ⟨T61, L61, k61, n61⟩, -, X61, ⟨Lc61, hQ61, l61, y61, z61⟩, st61⟩ := X43.virtualBack hx (y := (⟨"com/example/tyche/tyche/lang/FilterExpression$Operator", "combines", "()Z"⟩ : MethodName)) (z := (⟨"com/example/tyche/tyche/lang/FilterExpression$Operator", "combines", "()Z"⟩ : MethodName)) hown (mvT hZ (hw _ (List.mem_of_getElem? (i := 33) rfl))) (mvT hZ (hw _ (List.mem_of_getElem? (i := 34) rfl))) (notFace_of_selects (args := #[]) (mvT hZ (hw _ (List.mem_of_getElem? (i := 36) rfl)))) (mvT hZ (hw _ (List.mem_of_getElem? (i := 36) rfl))) (mvT hZ (hw _ (List.mem_of_getElem? (i := 35) rfl))) (by decide) (own_back (W := 0) (own_combN l Z a0 hw [] u8 u10 u11 u12 u13 h43 n0 O43 S_u10 S_u11 S_u12 S_u13 (F_u8.ne F_u10 (by decide)) (F_u8.ne F_u11 (by decide)) (F_u8.ne F_u12 (by decide)) (F_u8.ne F_u13 (by decide))) hZ (hw _ (List.mem_of_getElem? (i := 37) rfl)) (hw _ (List.mem_of_getElem? (i := 3) rfl)) (by decide) (by decide)) q61a q61c (g := (mkF m 121 #[.val (.int p1), .val (.ref b15), .val (.int (8 : Int32)), .val (.int (1 : Int32))] [(.ref u8)])) rfl (by rw [hml]; rfl) (Steps.refl _) (argsL := []) (rest := []) (lenOf own_pd0 rfl) rfl (by show 2 * 0 + _ ≤ _; exact Nat.le_of_eq rfl) (hb hby at_121) (fun _ _ => ⟨rfl, e43, (by decide : 1 + 0 ≤ _), (by decide : 14 + 0 ≤ _)⟩)
    dsimp only [Pt.U, Pt.locs, Pt.cells, Pt.slots] at X61 l61 y61 z61 st61 hQ61
    subst l61 y61 z61
    obtain ⟨rfl, N61q, e61⟩ := hQ61
    have N61 := Fr.app N43 N61q
    refine own_by (fun _ k => st61.trans k) ?_
    show own_End p e below _ (T61.setTop (mkF m 124 #[.val (.int p1), .val (.ref b15), .val (.int (8 : Int32)), .val (.int (1 : Int32))] [(.int (1 : Int32))]))
    refine own_by (fun _ k => XS.iloadN X61.here hx rfl (hb hby at_124) rfl k) ?_
    show own_End p e below _ (T61.setTop (mkF m 125 #[.val (.int p1), .val (.ref b15), .val (.int (8 : Int32)), .val (.int (1 : Int32))] [(.int (1 : Int32)), (.int (1 : Int32))]))
    refine own_by (fun _ k => XS.icmpNo X61.here hx rfl (hb hby at_125) rfl (teq (by decide)).2 k) ?_
    show own_End p e below _ (T61.setTop (mkF m 128 #[.val (.int p1), .val (.ref b15), .val (.int (8 : Int32)), .val (.int (1 : Int32))] []))
    refine own_by (fun _ k => XS.iconst X61.here hx rfl (hb hby at_128) k) ?_
    show own_End p e below _ (T61.setTop (mkF m 129 #[.val (.int p1), .val (.ref b15), .val (.int (8 : Int32)), .val (.int (1 : Int32))] [(.int (1 : Int32))]))
    refine own_by (fun _ k => XS.goto X61.here hx rfl (pc0 := 129) (pc' := 133) rfl (hb hby at_129) (by decide) (by decide) k) ?_
    show own_End p e below _ (T61.setTop (mkF m 133 #[.val (.int p1), .val (.ref b15), .val (.int (8 : Int32)), .val (.int (1 : Int32))] [(.int (1 : Int32))]))
    obtain ⟨fs, hr, hrun, hended, hW, hsame⟩ := X61.leave (v := (some (.int (1 : Int32)))) (fun h => by rw [Bd.returns] at h; cases h)
    refine ⟨_, _, retN X61 hx (t := .boolean) Bd.returns (by simp) (hb hby at_133) hr, hrun, hended, _, _, rfl, ?_, ⟨_, rfl⟩, hW, hsame.mono (by decide) (by decide)⟩
    exact ⟨rfl, N61⟩
  · -- case 9
    rw [hq]
    show own_End p e below _ (T43.setTop (mkF m 106 #[.val (.int p1), .val (.ref b15), .val (.int (9 : Int32)), .unset] []))
    refine own_by (fun _ k => XS.iloadN X43.here hx rfl (hb hby at_106) rfl k) ?_
    show own_End p e below _ (T43.setTop (mkF m 107 #[.val (.int p1), .val (.ref b15), .val (.int (9 : Int32)), .unset] [(.int (9 : Int32))]))
    refine own_by (fun _ k => XS.bipush X43.here hx rfl (hb hby at_107) k) ?_
    show own_End p e below _ (T43.setTop (mkF m 109 #[.val (.int p1), .val (.ref b15), .val (.int (9 : Int32)), .unset] [(.int (10 : Int32)), (.int (9 : Int32))]))
    refine own_by (fun _ k => XS.icmpNo X43.here hx rfl (hb hby at_109) rfl (tlt (by decide)).2.1 k) ?_
    show own_End p e below _ (T43.setTop (mkF m 112 #[.val (.int p1), .val (.ref b15), .val (.int (9 : Int32)), .unset] []))
    refine own_by (fun _ k => XS.iconst X43.here hx rfl (hb hby at_112) k) ?_
    show own_End p e below _ (T43.setTop (mkF m 113 #[.val (.int p1), .val (.ref b15), .val (.int (9 : Int32)), .unset] [(.int (1 : Int32))]))
    refine own_by (fun _ k => XS.goto X43.here hx rfl (pc0 := 113) (pc' := 117) rfl (hb hby at_113) (by decide) (by decide) k) ?_
    show own_End p e below _ (T43.setTop (mkF m 117 #[.val (.int p1), .val (.ref b15), .val (.int (9 : Int32)), .unset] [(.int (1 : Int32))]))
    refine own_by (fun _ k => XS.istoreN X43.here hx rfl (hb hby at_117) rfl (l' := #[.val (.int p1), .val (.ref b15), .val (.int (9 : Int32)), .val (.int (1 : Int32))]) rfl k) ?_
    show own_End p e below _ (T43.setTop (mkF m 118 #[.val (.int p1), .val (.ref b15), .val (.int (9 : Int32)), .val (.int (1 : Int32))] []))
    refine own_by (fun _ k => XS.aloadN X43.here hx rfl (hb hby at_118) rfl rfl k) ?_
    show own_End p e below _ (T43.setTop (mkF m 119 #[.val (.int p1), .val (.ref b15), .val (.int (9 : Int32)), .val (.int (1 : Int32))] [(.ref b15)]))
    refine own_by (fun _ k => XS.iloadN X43.here hx rfl (hb hby at_119) rfl k) ?_
    show own_End p e below _ (T43.setTop (mkF m 120 #[.val (.int p1), .val (.ref b15), .val (.int (9 : Int32)), .val (.int (1 : Int32))] [(.int (9 : Int32)), (.ref b15)]))
    obtain ⟨cl62, Ar62, -, S62, M62, Hs62, -⟩ := V43_b15
    have hin62 : ¬ ((9 : Int32) < 0 ∨ cl62.slots.size ≤ ((9 : Int32)).toNatClampNeg) := inb_of S62 ⟨by decide, by decide⟩
    refine own_by (fun _ k => X43.aaload hx (j := (9 : Int32)) (v := (.ref u9)) (by rw [e43]; exact Ar62.1) (State.isArrayOf_alike hZ.alike Ar62.2.1) rfl Ar62.2.2 hin62 (Has.at Hs62 hin62 rfl) (g := (mkF m 120 #[.val (.int p1), .val (.ref b15), .val (.int (9 : Int32)), .val (.int (1 : Int32))] [(.int (9 : Int32)), (.ref b15)])) rfl rfl (hb hby at_120) _ k) ?_
    show own_End p e below _ (T43.setTop (mkF m 121 #[.val (.int p1), .val (.ref b15), .val (.int (9 : Int32)), .val (.int (1 : Int32))] [(.ref u9)]))
    obtain ⟨cq63, kq63, q63a, q63b, q63c⟩ := isOf hZ e43 (E_u9.ext O43)
    obtain ⟨_, _, ⟨T63, L63, k63, n63⟩, -, X63, ⟨Lc63, hQ63, l63, y63, z63⟩, st63⟩ := X43.virtualBack hx (y := (⟨"com/example/tyche/tyche/lang/FilterExpression$Operator", "combines", "()Z"⟩ : MethodName)) (z := (⟨"com/example/tyche/tyche/lang/FilterExpression$Operator", "combines", "()Z"⟩ : MethodName)) hown (mvT hZ (hw _ (List.mem_of_getElem? (i := 33) rfl))) (mvT hZ (hw _ (List.mem_of_getElem? (i := 34) rfl))) (notFace_of_selects (args := #[]) (mvT hZ (hw _ (List.mem_of_getElem? (i := 36) rfl)))) (mvT hZ (hw _ (List.mem_of_getElem? (i := 36) rfl))) (mvT hZ (hw _ (List.mem_of_getElem? (i := 35) rfl))) (by decide) (own_back (W := 0) (own_combN l Z a0 hw [] u9 u10 u11 u12 u13 h43 n0 O43 S_u10 S_u11 S_u12 S_u13 (F_u9.ne F_u10 (by decide)) (F_u9.ne F_u11 (by decide)) (F_u9.ne F_u12 (by decide)) (F_u9.ne F_u13 (by decide))) hZ (hw _ (List.mem_of_getElem? (i := 37) rfl)) (hw _ (List.mem_of_getElem? (i := 3) rfl)) (by decide) (by decide)) q63a q63c (g := (mkF m 121 #[.val (.int p1), .val (.ref b15), .val (.int (9 : Int32)), .val (.int (1 : Int32))] [(.ref u9)])) rfl (by rw [hml]; rfl) (Steps.refl _) (argsL := []) (rest := []) (lenOf own_pd0 rfl) rfl (by show 2 * 0 + _ ≤ _; exact Nat.le_of_eq rfl) (hb hby at_121) (fun _ _ => ⟨rfl, e43, (by decide : 1 + 0 ≤ _), (by decide : 14 + 0 ≤ _)⟩)
    dsimp only [Pt.U, Pt.locs, Pt.cells, Pt.slots] at X63 l63 y63 z63 st63 hQ63
    subst l63 y63 z63
    obtain ⟨rfl, N63q, e63⟩ := hQ63
    have N63 := Fr.app N43 N63q
    refine own_by (fun _ k => st63.trans k) ?_
    show own_End p e below _ (T63.setTop (mkF m 124 #[.val (.int p1), .val (.ref b15), .val (.int (9 : Int32)), .val (.int (1 : Int32))] [(.int (1 : Int32))]))
    refine own_by (fun _ k => XS.iloadN X63.here hx rfl (hb hby at_124) rfl k) ?_
    show own_End p e below _ (T63.setTop (mkF m 125 #[.val (.int p1), .val (.ref b15), .val (.int (9 : Int32)), .val (.int (1 : Int32))] [(.int (1 : Int32)), (.int (1 : Int32))]))
    refine own_by (fun _ k => XS.icmpNo X63.here hx rfl (hb hby at_125) rfl (teq (by decide)).2 k) ?_
    show own_End p e below _ (T63.setTop (mkF m 128 #[.val (.int p1), .val (.ref b15), .val (.int (9 : Int32)), .val (.int (1 : Int32))] []))
    refine own_by (fun _ k => XS.iconst X63.here hx rfl (hb hby at_128) k) ?_
    show own_End p e below _ (T63.setTop (mkF m 129 #[.val (.int p1), .val (.ref b15), .val (.int (9 : Int32)), .val (.int (1 : Int32))] [(.int (1 : Int32))]))
    refine own_by (fun _ k => XS.goto X63.here hx rfl (pc0 := 129) (pc' := 133) rfl (hb hby at_129) (by decide) (by decide) k) ?_
    show own_End p e below _ (T63.setTop (mkF m 133 #[.val (.int p1), .val (.ref b15), .val (.int (9 : Int32)), .val (.int (1 : Int32))] [(.int (1 : Int32))]))
    obtain ⟨fs, hr, hrun, hended, hW, hsame⟩ := X63.leave (v := (some (.int (1 : Int32)))) (fun h => by rw [Bd.returns] at h; cases h)
    refine ⟨_, _, retN X63 hx (t := .boolean) Bd.returns (by simp) (hb hby at_133) hr, hrun, hended, _, _, rfl, ?_, ⟨_, rfl⟩, hW, hsame.mono (by decide) (by decide)⟩
    exact ⟨rfl, N63⟩
  · -- case 10
    rw [hq]
    show own_End p e below _ (T43.setTop (mkF m 106 #[.val (.int p1), .val (.ref b15), .val (.int (10 : Int32)), .unset] []))
    refine own_by (fun _ k => XS.iloadN X43.here hx rfl (hb hby at_106) rfl k) ?_
    show own_End p e below _ (T43.setTop (mkF m 107 #[.val (.int p1), .val (.ref b15), .val (.int (10 : Int32)), .unset] [(.int (10 : Int32))]))
    refine own_by (fun _ k => XS.bipush X43.here hx rfl (hb hby at_107) k) ?_
    show own_End p e below _ (T43.setTop (mkF m 109 #[.val (.int p1), .val (.ref b15), .val (.int (10 : Int32)), .unset] [(.int (10 : Int32)), (.int (10 : Int32))]))
    refine own_by (fun _ k => XS.icmpYes X43.here hx rfl (pc0 := 109) (pc' := 116) rfl (hb hby at_109) rfl (flt (by decide)).2.1 (by decide) (by decide) k) ?_
    show own_End p e below _ (T43.setTop (mkF m 116 #[.val (.int p1), .val (.ref b15), .val (.int (10 : Int32)), .unset] []))
    refine own_by (fun _ k => XS.iconst X43.here hx rfl (hb hby at_116) k) ?_
    show own_End p e below _ (T43.setTop (mkF m 117 #[.val (.int p1), .val (.ref b15), .val (.int (10 : Int32)), .unset] [(.int (0 : Int32))]))
    refine own_by (fun _ k => XS.istoreN X43.here hx rfl (hb hby at_117) rfl (l' := #[.val (.int p1), .val (.ref b15), .val (.int (10 : Int32)), .val (.int (0 : Int32))]) rfl k) ?_
    show own_End p e below _ (T43.setTop (mkF m 118 #[.val (.int p1), .val (.ref b15), .val (.int (10 : Int32)), .val (.int (0 : Int32))] []))
    refine own_by (fun _ k => XS.aloadN X43.here hx rfl (hb hby at_118) rfl rfl k) ?_
    show own_End p e below _ (T43.setTop (mkF m 119 #[.val (.int p1), .val (.ref b15), .val (.int (10 : Int32)), .val (.int (0 : Int32))] [(.ref b15)]))
    refine own_by (fun _ k => XS.iloadN X43.here hx rfl (hb hby at_119) rfl k) ?_
    show own_End p e below _ (T43.setTop (mkF m 120 #[.val (.int p1), .val (.ref b15), .val (.int (10 : Int32)), .val (.int (0 : Int32))] [(.int (10 : Int32)), (.ref b15)]))
    obtain ⟨cl64, Ar64, -, S64, M64, Hs64, -⟩ := V43_b15
    have hin64 : ¬ ((10 : Int32) < 0 ∨ cl64.slots.size ≤ ((10 : Int32)).toNatClampNeg) := inb_of S64 ⟨by decide, by decide⟩
    refine own_by (fun _ k => X43.aaload hx (j := (10 : Int32)) (v := (.ref u10)) (by rw [e43]; exact Ar64.1) (State.isArrayOf_alike hZ.alike Ar64.2.1) rfl Ar64.2.2 hin64 (Has.at Hs64 hin64 rfl) (g := (mkF m 120 #[.val (.int p1), .val (.ref b15), .val (.int (10 : Int32)), .val (.int (0 : Int32))] [(.int (10 : Int32)), (.ref b15)])) rfl rfl (hb hby at_120) _ k) ?_
    show own_End p e below _ (T43.setTop (mkF m 121 #[.val (.int p1), .val (.ref b15), .val (.int (10 : Int32)), .val (.int (0 : Int32))] [(.ref u10)]))
    obtain ⟨cq65, kq65, q65a, q65b, q65c⟩ := isOf hZ e43 (E_u10.ext O43)
    obtain ⟨_, _, ⟨T65, L65, k65, n65⟩, -, X65, ⟨Lc65, hQ65, l65, y65, z65⟩, st65⟩ := X43.virtualBack hx (y := (⟨"com/example/tyche/tyche/lang/FilterExpression$Operator", "combines", "()Z"⟩ : MethodName)) (z := (⟨"com/example/tyche/tyche/lang/FilterExpression$Operator", "combines", "()Z"⟩ : MethodName)) hown (mvT hZ (hw _ (List.mem_of_getElem? (i := 33) rfl))) (mvT hZ (hw _ (List.mem_of_getElem? (i := 34) rfl))) (notFace_of_selects (args := #[]) (mvT hZ (hw _ (List.mem_of_getElem? (i := 36) rfl)))) (mvT hZ (hw _ (List.mem_of_getElem? (i := 36) rfl))) (mvT hZ (hw _ (List.mem_of_getElem? (i := 35) rfl))) (by decide) (own_back (W := 0) (own_comb10 l Z a0 hw [] u10 u11 u12 u13 h43 n0 O43 S_u10 S_u11 S_u12 S_u13 ) hZ (hw _ (List.mem_of_getElem? (i := 37) rfl)) (hw _ (List.mem_of_getElem? (i := 3) rfl)) (by decide) (by decide)) q65a q65c (g := (mkF m 121 #[.val (.int p1), .val (.ref b15), .val (.int (10 : Int32)), .val (.int (0 : Int32))] [(.ref u10)])) rfl (by rw [hml]; rfl) (Steps.refl _) (argsL := []) (rest := []) (lenOf own_pd0 rfl) rfl (by show 2 * 0 + _ ≤ _; exact Nat.le_of_eq rfl) (hb hby at_121) (fun _ _ => ⟨rfl, e43, (by decide : 1 + 0 ≤ _), (by decide : 14 + 0 ≤ _)⟩)
    dsimp only [Pt.U, Pt.locs, Pt.cells, Pt.slots] at X65 l65 y65 z65 st65 hQ65
    subst l65 y65 z65
    obtain ⟨rfl, N65q, e65⟩ := hQ65
    have N65 := Fr.app N43 N65q
    refine own_by (fun _ k => st65.trans k) ?_
    show own_End p e below _ (T65.setTop (mkF m 124 #[.val (.int p1), .val (.ref b15), .val (.int (10 : Int32)), .val (.int (0 : Int32))] [(.int (0 : Int32))]))
    refine own_by (fun _ k => XS.iloadN X65.here hx rfl (hb hby at_124) rfl k) ?_
    show own_End p e below _ (T65.setTop (mkF m 125 #[.val (.int p1), .val (.ref b15), .val (.int (10 : Int32)), .val (.int (0 : Int32))] [(.int (0 : Int32)), (.int (0 : Int32))]))
    refine own_by (fun _ k => XS.icmpNo X65.here hx rfl (hb hby at_125) rfl (teq (by decide)).2 k) ?_
    show own_End p e below _ (T65.setTop (mkF m 128 #[.val (.int p1), .val (.ref b15), .val (.int (10 : Int32)), .val (.int (0 : Int32))] []))
    refine own_by (fun _ k => XS.iconst X65.here hx rfl (hb hby at_128) k) ?_
    show own_End p e below _ (T65.setTop (mkF m 129 #[.val (.int p1), .val (.ref b15), .val (.int (10 : Int32)), .val (.int (0 : Int32))] [(.int (1 : Int32))]))
    refine own_by (fun _ k => XS.goto X65.here hx rfl (pc0 := 129) (pc' := 133) rfl (hb hby at_129) (by decide) (by decide) k) ?_
    show own_End p e below _ (T65.setTop (mkF m 133 #[.val (.int p1), .val (.ref b15), .val (.int (10 : Int32)), .val (.int (0 : Int32))] [(.int (1 : Int32))]))
    obtain ⟨fs, hr, hrun, hended, hW, hsame⟩ := X65.leave (v := (some (.int (1 : Int32)))) (fun h => by rw [Bd.returns] at h; cases h)
    refine ⟨_, _, retN X65 hx (t := .boolean) Bd.returns (by simp) (hb hby at_133) hr, hrun, hended, _, _, rfl, ?_, ⟨_, rfl⟩, hW, hsame.mono (by decide) (by decide)⟩
    exact ⟨rfl, N65⟩
  · -- case 11
    rw [hq]
    show own_End p e below _ (T43.setTop (mkF m 106 #[.val (.int p1), .val (.ref b15), .val (.int (11 : Int32)), .unset] []))
    refine own_by (fun _ k => XS.iloadN X43.here hx rfl (hb hby at_106) rfl k) ?_
    show own_End p e below _ (T43.setTop (mkF m 107 #[.val (.int p1), .val (.ref b15), .val (.int (11 : Int32)), .unset] [(.int (11 : Int32))]))
    refine own_by (fun _ k => XS.bipush X43.here hx rfl (hb hby at_107) k) ?_
    show own_End p e below _ (T43.setTop (mkF m 109 #[.val (.int p1), .val (.ref b15), .val (.int (11 : Int32)), .unset] [(.int (10 : Int32)), (.int (11 : Int32))]))
    refine own_by (fun _ k => XS.icmpYes X43.here hx rfl (pc0 := 109) (pc' := 116) rfl (hb hby at_109) rfl (flt (by decide)).2.1 (by decide) (by decide) k) ?_
    show own_End p e below _ (T43.setTop (mkF m 116 #[.val (.int p1), .val (.ref b15), .val (.int (11 : Int32)), .unset] []))
    refine own_by (fun _ k => XS.iconst X43.here hx rfl (hb hby at_116) k) ?_
    show own_End p e below _ (T43.setTop (mkF m 117 #[.val (.int p1), .val (.ref b15), .val (.int (11 : Int32)), .unset] [(.int (0 : Int32))]))
    refine own_by (fun _ k => XS.istoreN X43.here hx rfl (hb hby at_117) rfl (l' := #[.val (.int p1), .val (.ref b15), .val (.int (11 : Int32)), .val (.int (0 : Int32))]) rfl k) ?_
    show own_End p e below _ (T43.setTop (mkF m 118 #[.val (.int p1), .val (.ref b15), .val (.int (11 : Int32)), .val (.int (0 : Int32))] []))
    refine own_by (fun _ k => XS.aloadN X43.here hx rfl (hb hby at_118) rfl rfl k) ?_
    show own_End p e below _ (T43.setTop (mkF m 119 #[.val (.int p1), .val (.ref b15), .val (.int (11 : Int32)), .val (.int (0 : Int32))] [(.ref b15)]))
    refine own_by (fun _ k => XS.iloadN X43.here hx rfl (hb hby at_119) rfl k) ?_
    show own_End p e below _ (T43.setTop (mkF m 120 #[.val (.int p1), .val (.ref b15), .val (.int (11 : Int32)), .val (.int (0 : Int32))] [(.int (11 : Int32)), (.ref b15)]))
    obtain ⟨cl66, Ar66, -, S66, M66, Hs66, -⟩ := V43_b15
    have hin66 : ¬ ((11 : Int32) < 0 ∨ cl66.slots.size ≤ ((11 : Int32)).toNatClampNeg) := inb_of S66 ⟨by decide, by decide⟩
    refine own_by (fun _ k => X43.aaload hx (j := (11 : Int32)) (v := (.ref u11)) (by rw [e43]; exact Ar66.1) (State.isArrayOf_alike hZ.alike Ar66.2.1) rfl Ar66.2.2 hin66 (Has.at Hs66 hin66 rfl) (g := (mkF m 120 #[.val (.int p1), .val (.ref b15), .val (.int (11 : Int32)), .val (.int (0 : Int32))] [(.int (11 : Int32)), (.ref b15)])) rfl rfl (hb hby at_120) _ k) ?_
    show own_End p e below _ (T43.setTop (mkF m 121 #[.val (.int p1), .val (.ref b15), .val (.int (11 : Int32)), .val (.int (0 : Int32))] [(.ref u11)]))
    obtain ⟨cq67, kq67, q67a, q67b, q67c⟩ := isOf hZ e43 (E_u11.ext O43)
    obtain ⟨_, _, ⟨T67, L67, k67, n67⟩, -, X67, ⟨Lc67, hQ67, l67, y67, z67⟩, st67⟩ := X43.virtualBack hx (y := (⟨"com/example/tyche/tyche/lang/FilterExpression$Operator", "combines", "()Z"⟩ : MethodName)) (z := (⟨"com/example/tyche/tyche/lang/FilterExpression$Operator", "combines", "()Z"⟩ : MethodName)) hown (mvT hZ (hw _ (List.mem_of_getElem? (i := 33) rfl))) (mvT hZ (hw _ (List.mem_of_getElem? (i := 34) rfl))) (notFace_of_selects (args := #[]) (mvT hZ (hw _ (List.mem_of_getElem? (i := 36) rfl)))) (mvT hZ (hw _ (List.mem_of_getElem? (i := 36) rfl))) (mvT hZ (hw _ (List.mem_of_getElem? (i := 35) rfl))) (by decide) (own_back (W := 0) (own_comb11 l Z a0 hw [] u10 u11 u12 u13 h43 n0 O43 S_u10 S_u11 S_u12 S_u13 (F_u11.ne F_u10 (by decide))) hZ (hw _ (List.mem_of_getElem? (i := 37) rfl)) (hw _ (List.mem_of_getElem? (i := 3) rfl)) (by decide) (by decide)) q67a q67c (g := (mkF m 121 #[.val (.int p1), .val (.ref b15), .val (.int (11 : Int32)), .val (.int (0 : Int32))] [(.ref u11)])) rfl (by rw [hml]; rfl) (Steps.refl _) (argsL := []) (rest := []) (lenOf own_pd0 rfl) rfl (by show 2 * 0 + _ ≤ _; exact Nat.le_of_eq rfl) (hb hby at_121) (fun _ _ => ⟨rfl, e43, (by decide : 1 + 0 ≤ _), (by decide : 14 + 0 ≤ _)⟩)
    dsimp only [Pt.U, Pt.locs, Pt.cells, Pt.slots] at X67 l67 y67 z67 st67 hQ67
    subst l67 y67 z67
    obtain ⟨rfl, N67q, e67⟩ := hQ67
    have N67 := Fr.app N43 N67q
    refine own_by (fun _ k => st67.trans k) ?_
    show own_End p e below _ (T67.setTop (mkF m 124 #[.val (.int p1), .val (.ref b15), .val (.int (11 : Int32)), .val (.int (0 : Int32))] [(.int (0 : Int32))]))
    refine own_by (fun _ k => XS.iloadN X67.here hx rfl (hb hby at_124) rfl k) ?_
    show own_End p e below _ (T67.setTop (mkF m 125 #[.val (.int p1), .val (.ref b15), .val (.int (11 : Int32)), .val (.int (0 : Int32))] [(.int (0 : Int32)), (.int (0 : Int32))]))
    refine own_by (fun _ k => XS.icmpNo X67.here hx rfl (hb hby at_125) rfl (teq (by decide)).2 k) ?_
    show own_End p e below _ (T67.setTop (mkF m 128 #[.val (.int p1), .val (.ref b15), .val (.int (11 : Int32)), .val (.int (0 : Int32))] []))
    refine own_by (fun _ k => XS.iconst X67.here hx rfl (hb hby at_128) k) ?_
    show own_End p e below _ (T67.setTop (mkF m 129 #[.val (.int p1), .val (.ref b15), .val (.int (11 : Int32)), .val (.int (0 : Int32))] [(.int (1 : Int32))]))
    refine own_by (fun _ k => XS.goto X67.here hx rfl (pc0 := 129) (pc' := 133) rfl (hb hby at_129) (by decide) (by decide) k) ?_
    show own_End p e below _ (T67.setTop (mkF m 133 #[.val (.int p1), .val (.ref b15), .val (.int (11 : Int32)), .val (.int (0 : Int32))] [(.int (1 : Int32))]))
    obtain ⟨fs, hr, hrun, hended, hW, hsame⟩ := X67.leave (v := (some (.int (1 : Int32)))) (fun h => by rw [Bd.returns] at h; cases h)
    refine ⟨_, _, retN X67 hx (t := .boolean) Bd.returns (by simp) (hb hby at_133) hr, hrun, hended, _, _, rfl, ?_, ⟨_, rfl⟩, hW, hsame.mono (by decide) (by decide)⟩
    exact ⟨rfl, N67⟩
  · -- case 12
    rw [hq]
    show own_End p e below _ (T43.setTop (mkF m 106 #[.val (.int p1), .val (.ref b15), .val (.int (12 : Int32)), .unset] []))
    refine own_by (fun _ k => XS.iloadN X43.here hx rfl (hb hby at_106) rfl k) ?_
    show own_End p e below _ (T43.setTop (mkF m 107 #[.val (.int p1), .val (.ref b15), .val (.int (12 : Int32)), .unset] [(.int (12 : Int32))]))
    refine own_by (fun _ k => XS.bipush X43.here hx rfl (hb hby at_107) k) ?_
    show own_End p e below _ (T43.setTop (mkF m 109 #[.val (.int p1), .val (.ref b15), .val (.int (12 : Int32)), .unset] [(.int (10 : Int32)), (.int (12 : Int32))]))
    refine own_by (fun _ k => XS.icmpYes X43.here hx rfl (pc0 := 109) (pc' := 116) rfl (hb hby at_109) rfl (flt (by decide)).2.1 (by decide) (by decide) k) ?_
    show own_End p e below _ (T43.setTop (mkF m 116 #[.val (.int p1), .val (.ref b15), .val (.int (12 : Int32)), .unset] []))
    refine own_by (fun _ k => XS.iconst X43.here hx rfl (hb hby at_116) k) ?_
    show own_End p e below _ (T43.setTop (mkF m 117 #[.val (.int p1), .val (.ref b15), .val (.int (12 : Int32)), .unset] [(.int (0 : Int32))]))
    refine own_by (fun _ k => XS.istoreN X43.here hx rfl (hb hby at_117) rfl (l' := #[.val (.int p1), .val (.ref b15), .val (.int (12 : Int32)), .val (.int (0 : Int32))]) rfl k) ?_
    show own_End p e below _ (T43.setTop (mkF m 118 #[.val (.int p1), .val (.ref b15), .val (.int (12 : Int32)), .val (.int (0 : Int32))] []))
    refine own_by (fun _ k => XS.aloadN X43.here hx rfl (hb hby at_118) rfl rfl k) ?_
    show own_End p e below _ (T43.setTop (mkF m 119 #[.val (.int p1), .val (.ref b15), .val (.int (12 : Int32)), .val (.int (0 : Int32))] [(.ref b15)]))
    refine own_by (fun _ k => XS.iloadN X43.here hx rfl (hb hby at_119) rfl k) ?_
    show own_End p e below _ (T43.setTop (mkF m 120 #[.val (.int p1), .val (.ref b15), .val (.int (12 : Int32)), .val (.int (0 : Int32))] [(.int (12 : Int32)), (.ref b15)]))
    obtain ⟨cl68, Ar68, -, S68, M68, Hs68, -⟩ := V43_b15
    have hin68 : ¬ ((12 : Int32) < 0 ∨ cl68.slots.size ≤ ((12 : Int32)).toNatClampNeg) := inb_of S68 ⟨by decide, by decide⟩
    refine own_by (fun _ k => X43.aaload hx (j := (12 : Int32)) (v := (.ref u12)) (by rw [e43]; exact Ar68.1) (State.isArrayOf_alike hZ.alike Ar68.2.1) rfl Ar68.2.2 hin68 (Has.at Hs68 hin68 rfl) (g := (mkF m 120 #[.val (.int p1), .val (.ref b15), .val (.int (12 : Int32)), .val (.int (0 : Int32))] [(.int (12 : Int32)), (.ref b15)])) rfl rfl (hb hby at_120) _ k) ?_
    show own_End p e below _ (T43.setTop (mkF m 121 #[.val (.int p1), .val (.ref b15), .val (.int (12 : Int32)), .val (.int (0 : Int32))] [(.ref u12)]))
    obtain ⟨cq69, kq69, q69a, q69b, q69c⟩ := isOf hZ e43 (E_u12.ext O43)
    obtain ⟨_, _, ⟨T69, L69, k69, n69⟩, -, X69, ⟨Lc69, hQ69, l69, y69, z69⟩, st69⟩ := X43.virtualBack hx (y := (⟨"com/example/tyche/tyche/lang/FilterExpression$Operator", "combines", "()Z"⟩ : MethodName)) (z := (⟨"com/example/tyche/tyche/lang/FilterExpression$Operator", "combines", "()Z"⟩ : MethodName)) hown (mvT hZ (hw _ (List.mem_of_getElem? (i := 33) rfl))) (mvT hZ (hw _ (List.mem_of_getElem? (i := 34) rfl))) (notFace_of_selects (args := #[]) (mvT hZ (hw _ (List.mem_of_getElem? (i := 36) rfl)))) (mvT hZ (hw _ (List.mem_of_getElem? (i := 36) rfl))) (mvT hZ (hw _ (List.mem_of_getElem? (i := 35) rfl))) (by decide) (own_back (W := 0) (own_comb12 l Z a0 hw [] u10 u11 u12 u13 h43 n0 O43 S_u10 S_u11 S_u12 S_u13 (F_u12.ne F_u10 (by decide)) (F_u12.ne F_u11 (by decide))) hZ (hw _ (List.mem_of_getElem? (i := 37) rfl)) (hw _ (List.mem_of_getElem? (i := 3) rfl)) (by decide) (by decide)) q69a q69c (g := (mkF m 121 #[.val (.int p1), .val (.ref b15), .val (.int (12 : Int32)), .val (.int (0 : Int32))] [(.ref u12)])) rfl (by rw [hml]; rfl) (Steps.refl _) (argsL := []) (rest := []) (lenOf own_pd0 rfl) rfl (by show 2 * 0 + _ ≤ _; exact Nat.le_of_eq rfl) (hb hby at_121) (fun _ _ => ⟨rfl, e43, (by decide : 1 + 0 ≤ _), (by decide : 14 + 0 ≤ _)⟩)
    dsimp only [Pt.U, Pt.locs, Pt.cells, Pt.slots] at X69 l69 y69 z69 st69 hQ69
    subst l69 y69 z69
    obtain ⟨rfl, N69q, e69⟩ := hQ69
    have N69 := Fr.app N43 N69q
    refine own_by (fun _ k => st69.trans k) ?_
    show own_End p e below _ (T69.setTop (mkF m 124 #[.val (.int p1), .val (.ref b15), .val (.int (12 : Int32)), .val (.int (0 : Int32))] [(.int (0 : Int32))]))
    refine own_by (fun _ k => XS.iloadN X69.here hx rfl (hb hby at_124) rfl k) ?_
    show own_End p e below _ (T69.setTop (mkF m 125 #[.val (.int p1), .val (.ref b15), .val (.int (12 : Int32)), .val (.int (0 : Int32))] [(.int (0 : Int32)), (.int (0 : Int32))]))
    refine own_by (fun _ k => XS.icmpNo X69.here hx rfl (hb hby at_125) rfl (teq (by decide)).2 k) ?_
    show own_End p e below _ (T69.setTop (mkF m 128 #[.val (.int p1), .val (.ref b15), .val (.int (12 : Int32)), .val (.int (0 : Int32))] []))
    refine own_by (fun _ k => XS.iconst X69.here hx rfl (hb hby at_128) k) ?_
    show own_End p e below _ (T69.setTop (mkF m 129 #[.val (.int p1), .val (.ref b15), .val (.int (12 : Int32)), .val (.int (0 : Int32))] [(.int (1 : Int32))]))
    refine own_by (fun _ k => XS.goto X69.here hx rfl (pc0 := 129) (pc' := 133) rfl (hb hby at_129) (by decide) (by decide) k) ?_
    show own_End p e below _ (T69.setTop (mkF m 133 #[.val (.int p1), .val (.ref b15), .val (.int (12 : Int32)), .val (.int (0 : Int32))] [(.int (1 : Int32))]))
    obtain ⟨fs, hr, hrun, hended, hW, hsame⟩ := X69.leave (v := (some (.int (1 : Int32)))) (fun h => by rw [Bd.returns] at h; cases h)
    refine ⟨_, _, retN X69 hx (t := .boolean) Bd.returns (by simp) (hb hby at_133) hr, hrun, hended, _, _, rfl, ?_, ⟨_, rfl⟩, hW, hsame.mono (by decide) (by decide)⟩
    exact ⟨rfl, N69⟩
  · -- case 13
    rw [hq]
    show own_End p e below _ (T43.setTop (mkF m 106 #[.val (.int p1), .val (.ref b15), .val (.int (13 : Int32)), .unset] []))
    refine own_by (fun _ k => XS.iloadN X43.here hx rfl (hb hby at_106) rfl k) ?_
    show own_End p e below _ (T43.setTop (mkF m 107 #[.val (.int p1), .val (.ref b15), .val (.int (13 : Int32)), .unset] [(.int (13 : Int32))]))
    refine own_by (fun _ k => XS.bipush X43.here hx rfl (hb hby at_107) k) ?_
    show own_End p e below _ (T43.setTop (mkF m 109 #[.val (.int p1), .val (.ref b15), .val (.int (13 : Int32)), .unset] [(.int (10 : Int32)), (.int (13 : Int32))]))
    refine own_by (fun _ k => XS.icmpYes X43.here hx rfl (pc0 := 109) (pc' := 116) rfl (hb hby at_109) rfl (flt (by decide)).2.1 (by decide) (by decide) k) ?_
    show own_End p e below _ (T43.setTop (mkF m 116 #[.val (.int p1), .val (.ref b15), .val (.int (13 : Int32)), .unset] []))
    refine own_by (fun _ k => XS.iconst X43.here hx rfl (hb hby at_116) k) ?_
    show own_End p e below _ (T43.setTop (mkF m 117 #[.val (.int p1), .val (.ref b15), .val (.int (13 : Int32)), .unset] [(.int (0 : Int32))]))
    refine own_by (fun _ k => XS.istoreN X43.here hx rfl (hb hby at_117) rfl (l' := #[.val (.int p1), .val (.ref b15), .val (.int (13 : Int32)), .val (.int (0 : Int32))]) rfl k) ?_
    show own_End p e below _ (T43.setTop (mkF m 118 #[.val (.int p1), .val (.ref b15), .val (.int (13 : Int32)), .val (.int (0 : Int32))] []))
    refine own_by (fun _ k => XS.aloadN X43.here hx rfl (hb hby at_118) rfl rfl k) ?_
    show own_End p e below _ (T43.setTop (mkF m 119 #[.val (.int p1), .val (.ref b15), .val (.int (13 : Int32)), .val (.int (0 : Int32))] [(.ref b15)]))
    refine own_by (fun _ k => XS.iloadN X43.here hx rfl (hb hby at_119) rfl k) ?_
    show own_End p e below _ (T43.setTop (mkF m 120 #[.val (.int p1), .val (.ref b15), .val (.int (13 : Int32)), .val (.int (0 : Int32))] [(.int (13 : Int32)), (.ref b15)]))
    obtain ⟨cl70, Ar70, -, S70, M70, Hs70, -⟩ := V43_b15
    have hin70 : ¬ ((13 : Int32) < 0 ∨ cl70.slots.size ≤ ((13 : Int32)).toNatClampNeg) := inb_of S70 ⟨by decide, by decide⟩
    refine own_by (fun _ k => X43.aaload hx (j := (13 : Int32)) (v := (.ref u13)) (by rw [e43]; exact Ar70.1) (State.isArrayOf_alike hZ.alike Ar70.2.1) rfl Ar70.2.2 hin70 (Has.at Hs70 hin70 rfl) (g := (mkF m 120 #[.val (.int p1), .val (.ref b15), .val (.int (13 : Int32)), .val (.int (0 : Int32))] [(.int (13 : Int32)), (.ref b15)])) rfl rfl (hb hby at_120) _ k) ?_
    show own_End p e below _ (T43.setTop (mkF m 121 #[.val (.int p1), .val (.ref b15), .val (.int (13 : Int32)), .val (.int (0 : Int32))] [(.ref u13)]))
    obtain ⟨cq71, kq71, q71a, q71b, q71c⟩ := isOf hZ e43 (E_u13.ext O43)
    obtain ⟨_, _, ⟨T71, L71, k71, n71⟩, -, X71, ⟨Lc71, hQ71, l71, y71, z71⟩, st71⟩ := X43.virtualBack hx (y := (⟨"com/example/tyche/tyche/lang/FilterExpression$Operator", "combines", "()Z"⟩ : MethodName)) (z := (⟨"com/example/tyche/tyche/lang/FilterExpression$Operator", "combines", "()Z"⟩ : MethodName)) hown (mvT hZ (hw _ (List.mem_of_getElem? (i := 33) rfl))) (mvT hZ (hw _ (List.mem_of_getElem? (i := 34) rfl))) (notFace_of_selects (args := #[]) (mvT hZ (hw _ (List.mem_of_getElem? (i := 36) rfl)))) (mvT hZ (hw _ (List.mem_of_getElem? (i := 36) rfl))) (mvT hZ (hw _ (List.mem_of_getElem? (i := 35) rfl))) (by decide) (own_back (W := 0) (own_comb13 l Z a0 hw [] u10 u11 u12 u13 h43 n0 O43 S_u10 S_u11 S_u12 S_u13 (F_u13.ne F_u10 (by decide)) (F_u13.ne F_u11 (by decide)) (F_u13.ne F_u12 (by decide))) hZ (hw _ (List.mem_of_getElem? (i := 37) rfl)) (hw _ (List.mem_of_getElem? (i := 3) rfl)) (by decide) (by decide)) q71a q71c (g := (mkF m 121 #[.val (.int p1), .val (.ref b15), .val (.int (13 : Int32)), .val (.int (0 : Int32))] [(.ref u13)])) rfl (by rw [hml]; rfl) (Steps.refl _) (argsL := []) (rest := []) (lenOf own_pd0 rfl) rfl (by show 2 * 0 + _ ≤ _; exact Nat.le_of_eq rfl) (hb hby at_121) (fun _ _ => ⟨rfl, e43, (by decide : 1 + 0 ≤ _), (by decide : 14 + 0 ≤ _)⟩)
    dsimp only [Pt.U, Pt.locs, Pt.cells, Pt.slots] at X71 l71 y71 z71 st71 hQ71
    subst l71 y71 z71
    obtain ⟨rfl, N71q, e71⟩ := hQ71
    have N71 := Fr.app N43 N71q
    refine own_by (fun _ k => st71.trans k) ?_
    show own_End p e below _ (T71.setTop (mkF m 124 #[.val (.int p1), .val (.ref b15), .val (.int (13 : Int32)), .val (.int (0 : Int32))] [(.int (0 : Int32))]))
    refine own_by (fun _ k => XS.iloadN X71.here hx rfl (hb hby at_124) rfl k) ?_
    show own_End p e below _ (T71.setTop (mkF m 125 #[.val (.int p1), .val (.ref b15), .val (.int (13 : Int32)), .val (.int (0 : Int32))] [(.int (0 : Int32)), (.int (0 : Int32))]))
    refine own_by (fun _ k => XS.icmpNo X71.here hx rfl (hb hby at_125) rfl (teq (by decide)).2 k) ?_
    show own_End p e below _ (T71.setTop (mkF m 128 #[.val (.int p1), .val (.ref b15), .val (.int (13 : Int32)), .val (.int (0 : Int32))] []))
    refine own_by (fun _ k => XS.iconst X71.here hx rfl (hb hby at_128) k) ?_
    show own_End p e below _ (T71.setTop (mkF m 129 #[.val (.int p1), .val (.ref b15), .val (.int (13 : Int32)), .val (.int (0 : Int32))] [(.int (1 : Int32))]))
    refine own_by (fun _ k => XS.goto X71.here hx rfl (pc0 := 129) (pc' := 133) rfl (hb hby at_129) (by decide) (by decide) k) ?_
    show own_End p e below _ (T71.setTop (mkF m 133 #[.val (.int p1), .val (.ref b15), .val (.int (13 : Int32)), .val (.int (0 : Int32))] [(.int (1 : Int32))]))
    obtain ⟨fs, hr, hrun, hended, hW, hsame⟩ := X71.leave (v := (some (.int (1 : Int32)))) (fun h => by rw [Bd.returns] at h; cases h)
    refine ⟨_, _, retN X71 hx (t := .boolean) Bd.returns (by simp) (hb hby at_133) hr, hrun, hended, _, _, rfl, ?_, ⟨_, rfl⟩, hW, hsame.mono (by decide) (by decide)⟩
    exact ⟨rfl, N71⟩
set_option maxRecDepth 65536 in
set_option maxHeartbeats 40000000 in
theorem comes_1 {Post : Tables → Env → Array Value → State → Outcome → State → Prop} (hpost : ∀ tb e args s v u, (limb_1_1.after args s (.returned v) u = true ∧ limb_1_2.after args s (.returned v) u = true ∧ True) → FrameEnd s (.returned v) u (Jvm.fieldLocs frame_1_writes args s ++ Jvm.arrayLocs frame_1_arrays args s ++ Jvm.staticLocs frame_1_statics s) 16 128 → Post tb e args s (.returned v) u) :
    ArmFor flags0 classFile x code maxLocals ret World_1 tables_1 room_1 Calls_1 rest_1 Pre_1 Post := by
  intro l hfl _ _ p e ha hc hk s m args below hf hA hF happ hP
  obtain ⟨hcalls, hrest, hpre⟩ := hP
  obtain ⟨-, -, -, hnamed, -, -, -, hat⟩ := (Spec.applies_iff hf).mp happ
  obtain ⟨hg, hn⟩ := and_e (Cond.before_iff.mp (show (Jvm.Cond.and given_1 narrow_1).before args s = true from hpre))
  obtain ⟨g0, g0'⟩ := and_e hg
  obtain ⟨w0, rfl⟩ : ∃ w0 : Value, args = #[w0] := by
    have hs : args.size = 1 := by simpa [Cond.value, given_1] using g0
    obtain ⟨L⟩ := args
    match L, hs with
    | [w0], _ => exact ⟨w0, rfl⟩
  have hw := fun d (hd : d ∈ tables_1) => atoms_spec (ws := Jvm.Cond.code x code maxLocals ret :: tables_1) hat d (List.mem_cons_of_mem _ hd)
  have hfit : Fit s := fun {y c} hc i hi => by
    obtain ⟨ha, rfl⟩ := Array.getElem?_eq_some_iff.mp hc
    have q := List.all_eq_true.mp ((Array.all_eq_true_iff_forall_mem.mp hF) _ (Array.getElem_mem ha)) i (List.mem_range.mpr hi)
    simpa [Array.getElem?_eq_getElem hi] using q
  obtain ⟨i0, ei0⟩ := is_v g0'
  obtain rfl : w0 = (.int i0) := Option.some.inj ei0
  obtain ⟨q0, hn⟩ := and_e hn
  obtain ⟨q1, hn⟩ := and_e hn
  obtain ⟨q2, hn⟩ := and_e hn
  obtain ⟨q3, hn⟩ := and_e hn
  obtain ⟨q4, hn⟩ := and_e hn
  obtain ⟨q5, hn⟩ := and_e hn
  obtain ⟨q6, hn⟩ := and_e hn
  obtain ⟨q7, hn⟩ := and_e hn
  obtain ⟨q8, hn⟩ := and_e hn
  obtain ⟨q9, hn⟩ := and_e hn
  obtain ⟨q10, hn⟩ := and_e hn
  obtain ⟨q11, hn⟩ := and_e hn
  obtain ⟨q12, hn⟩ := and_e hn
  obtain ⟨q13, hn⟩ := and_e hn
  obtain ⟨q14, hn⟩ := and_e hn
  obtain ⟨q15, hn⟩ := and_e hn
  obtain ⟨q16, hn⟩ := and_e hn
  obtain ⟨q17, hn⟩ := and_e hn
  obtain ⟨q18, hn⟩ := and_e hn
  obtain ⟨q19, hn⟩ := and_e hn
  obtain ⟨q20, hn⟩ := and_e hn
  obtain ⟨q21, hn⟩ := and_e hn
  obtain ⟨q22, hn⟩ := and_e hn
  obtain ⟨q23, hn⟩ := and_e hn
  obtain ⟨q24, hn⟩ := and_e hn
  obtain ⟨q25, hn⟩ := and_e hn
  obtain ⟨q26, hn⟩ := and_e hn
  obtain ⟨u0, ev_u0⟩ := exa_v q0
  have S_u0 := Sta.start ev_u0 (Or.inr ⟨(hw _ (List.mem_of_getElem? (i := 3) rfl)), (hw _ (List.mem_of_getElem? (i := 4) rfl))⟩)
  have E_u0 := Exa.start ev_u0 q0
  obtain ⟨u1, ev_u1⟩ := exa_v q1
  have S_u1 := Sta.start ev_u1 (Or.inr ⟨(hw _ (List.mem_of_getElem? (i := 3) rfl)), (hw _ (List.mem_of_getElem? (i := 7) rfl))⟩)
  have E_u1 := Exa.start ev_u1 q1
  obtain ⟨u2, ev_u2⟩ := exa_v q2
  have S_u2 := Sta.start ev_u2 (Or.inr ⟨(hw _ (List.mem_of_getElem? (i := 3) rfl)), (hw _ (List.mem_of_getElem? (i := 9) rfl))⟩)
  have E_u2 := Exa.start ev_u2 q2
  obtain ⟨u3, ev_u3⟩ := exa_v q3
  have S_u3 := Sta.start ev_u3 (Or.inr ⟨(hw _ (List.mem_of_getElem? (i := 3) rfl)), (hw _ (List.mem_of_getElem? (i := 11) rfl))⟩)
  have E_u3 := Exa.start ev_u3 q3
  obtain ⟨u4, ev_u4⟩ := exa_v q4
  have S_u4 := Sta.start ev_u4 (Or.inr ⟨(hw _ (List.mem_of_getElem? (i := 3) rfl)), (hw _ (List.mem_of_getElem? (i := 13) rfl))⟩)
  have E_u4 := Exa.start ev_u4 q4
  obtain ⟨u5, ev_u5⟩ := exa_v q5
  have S_u5 := Sta.start ev_u5 (Or.inr ⟨(hw _ (List.mem_of_getElem? (i := 3) rfl)), (hw _ (List.mem_of_getElem? (i := 15) rfl))⟩)
  have E_u5 := Exa.start ev_u5 q5
  obtain ⟨u6, ev_u6⟩ := exa_v q6
  have S_u6 := Sta.start ev_u6 (Or.inr ⟨(hw _ (List.mem_of_getElem? (i := 3) rfl)), (hw _ (List.mem_of_getElem? (i := 17) rfl))⟩)
  have E_u6 := Exa.start ev_u6 q6
  obtain ⟨u7, ev_u7⟩ := exa_v q7
  have S_u7 := Sta.start ev_u7 (Or.inr ⟨(hw _ (List.mem_of_getElem? (i := 3) rfl)), (hw _ (List.mem_of_getElem? (i := 19) rfl))⟩)
  have E_u7 := Exa.start ev_u7 q7
  obtain ⟨u8, ev_u8⟩ := exa_v q8
  have S_u8 := Sta.start ev_u8 (Or.inr ⟨(hw _ (List.mem_of_getElem? (i := 3) rfl)), (hw _ (List.mem_of_getElem? (i := 21) rfl))⟩)
  have E_u8 := Exa.start ev_u8 q8
  obtain ⟨u9, ev_u9⟩ := exa_v q9
  have S_u9 := Sta.start ev_u9 (Or.inr ⟨(hw _ (List.mem_of_getElem? (i := 3) rfl)), (hw _ (List.mem_of_getElem? (i := 23) rfl))⟩)
  have E_u9 := Exa.start ev_u9 q9
  obtain ⟨u10, ev_u10⟩ := exa_v q10
  have S_u10 := Sta.start ev_u10 (Or.inr ⟨(hw _ (List.mem_of_getElem? (i := 3) rfl)), (hw _ (List.mem_of_getElem? (i := 25) rfl))⟩)
  have E_u10 := Exa.start ev_u10 q10
  obtain ⟨u11, ev_u11⟩ := exa_v q11
  have S_u11 := Sta.start ev_u11 (Or.inr ⟨(hw _ (List.mem_of_getElem? (i := 3) rfl)), (hw _ (List.mem_of_getElem? (i := 27) rfl))⟩)
  have E_u11 := Exa.start ev_u11 q11
  obtain ⟨u12, ev_u12⟩ := exa_v q12
  have S_u12 := Sta.start ev_u12 (Or.inr ⟨(hw _ (List.mem_of_getElem? (i := 3) rfl)), (hw _ (List.mem_of_getElem? (i := 29) rfl))⟩)
  have E_u12 := Exa.start ev_u12 q12
  obtain ⟨u13, ev_u13⟩ := exa_v q13
  have S_u13 := Sta.start ev_u13 (Or.inr ⟨(hw _ (List.mem_of_getElem? (i := 3) rfl)), (hw _ (List.mem_of_getElem? (i := 31) rfl))⟩)
  have E_u13 := Exa.start ev_u13 q13
  have f_ordinal_u0 := own_intEq q14
  rw [fld_at ev_u0] at f_ordinal_u0
  have F_ordinal_u0 := Fld.start f_ordinal_u0
  have f_ordinal_u10 := own_intEq q15
  rw [fld_at ev_u10] at f_ordinal_u10
  have F_ordinal_u10 := Fld.start f_ordinal_u10
  have f_ordinal_u11 := own_intEq q16
  rw [fld_at ev_u11] at f_ordinal_u11
  have F_ordinal_u11 := Fld.start f_ordinal_u11
  have f_ordinal_u12 := own_intEq q17
  rw [fld_at ev_u12] at f_ordinal_u12
  have F_ordinal_u12 := Fld.start f_ordinal_u12
  have f_ordinal_u13 := own_intEq q18
  rw [fld_at ev_u13] at f_ordinal_u13
  have F_ordinal_u13 := Fld.start f_ordinal_u13
  have f_ordinal_u3 := own_intEq q19
  rw [fld_at ev_u3] at f_ordinal_u3
  have F_ordinal_u3 := Fld.start f_ordinal_u3
  have f_ordinal_u4 := own_intEq q20
  rw [fld_at ev_u4] at f_ordinal_u4
  have F_ordinal_u4 := Fld.start f_ordinal_u4
  have f_ordinal_u7 := own_intEq q21
  rw [fld_at ev_u7] at f_ordinal_u7
  have F_ordinal_u7 := Fld.start f_ordinal_u7
  have f_ordinal_u2 := own_intEq q22
  rw [fld_at ev_u2] at f_ordinal_u2
  have F_ordinal_u2 := Fld.start f_ordinal_u2
  have f_ordinal_u8 := own_intEq q23
  rw [fld_at ev_u8] at f_ordinal_u8
  have F_ordinal_u8 := Fld.start f_ordinal_u8
  have f_ordinal_u1 := own_intEq q24
  rw [fld_at ev_u1] at f_ordinal_u1
  have F_ordinal_u1 := Fld.start f_ordinal_u1
  have f_ordinal_u9 := own_intEq q25
  rw [fld_at ev_u9] at f_ordinal_u9
  have F_ordinal_u9 := Fld.start f_ordinal_u9
  have f_ordinal_u5 := own_intEq q26
  rw [fld_at ev_u5] at f_ordinal_u5
  have F_ordinal_u5 := Fld.start f_ordinal_u5
  have f_ordinal_u6 := own_intEq hn
  rw [fld_at ev_u6] at f_ordinal_u6
  have F_ordinal_u6 := Fld.start f_ordinal_u6
  obtain ⟨n, o, h1, h2, h3, _, L, rfl, ⟨rfl, N⟩, hq⟩ := own_law l s _ hw tables_1 i0 u0 u1 u2 u3 u4 u5 u6 u7 u8 u9 u10 u11 u12 u13 s.heap s.heap.size (Nat.le_refl _) ⟨Nat.le_refl _, fun _ _ q => q⟩ S_u0 S_u1 S_u2 S_u3 S_u4 S_u5 S_u6 S_u7 S_u8 S_u9 S_u10 S_u11 S_u12 S_u13 E_u0 E_u1 E_u2 E_u3 E_u4 E_u5 E_u6 E_u7 E_u8 E_u9 E_u10 E_u11 E_u12 E_u13 F_ordinal_u0 F_ordinal_u1 F_ordinal_u2 F_ordinal_u3 F_ordinal_u4 F_ordinal_u5 F_ordinal_u6 F_ordinal_u7 F_ordinal_u8 F_ordinal_u9 F_ordinal_u10 F_ordinal_u11 F_ordinal_u12 F_ordinal_u13 p e ha hc hk s m _ below hf ((Spec.applies_iff_loose hf).mp happ).1 ⟨rfl, State.Warmed39.refl s, rfl⟩ trivial
  refine ⟨n, _, h1, h2, h3, hpost _ _ _ _ _ _ ⟨Cond.after_iff.mpr rfl, Cond.after_iff.mpr (eq_i res_at (Term.int_eval (1)) rfl), trivial⟩ ⟨hq.1, hq.2.1, (hq.2.2.sift fun y hy => Or.inr (N y hy)).mono (by decide) (by decide)⟩⟩
theorem main_1_1 : Claimed_1_1 := comes_1 fun _ _ _ _ _ _ h hF => ⟨h.1, hF⟩
theorem main_1_2 : Claimed_1_2 := comes_1 fun _ _ _ _ _ _ h hF => ⟨h.2.1, hF⟩
end Jvm.Pilot.@@N@@
namespace Jvm.Pilot.@@N@@
open Jvm Jvm.ClassFile Sem Op Lib Jvm.Free Jvm.Stand Jvm.Pilot.@@N@@.Jvm.D
/-! MADE BY PROGRAM (witnessworld.py) out of the Statement's table words and the real class files: 13 classes; the members and pool entries that the words name. The judged class is class 1, her method 1. -/
namespace start1
open Jvm.ClassFile
def u (s : String) : CpInfo := .utf8 (stringToUtf16 s)
/-- a pool by its gaps: so many unusable entries, then the entry; so many at the end -/
def gap : Nat → List CpInfo → List CpInfo
  | 0, r => r
  | n + 1, r => .unusable :: gap n r
def poolList (es : List (Nat × CpInfo)) (last : Nat) : List CpInfo := es.foldr (fun e r => gap e.1 (e.2 :: r)) (gap last [])
def pool (es : List (Nat × CpInfo)) (last : Nat) : Array CpInfo := ⟨poolList es last⟩
def fileOf (pool : Array CpInfo) (this : Nat) (attrs : Array Attribute := #[]) (ms : Array MethodInfo := #[]) (fl : Nat := 33) (sup : Nat := 0) (ifs : Array Nat := #[]) (fds : Array FieldInfo := #[]) : ClassFile where
  minorVersion := 0
  majorVersion := 65
  constantPool := pool
  accessFlags := fl
  thisClass := this
  superClass := sup
  interfaces := ifs
  fields := fds
  methods := ms
  attributes := attrs
def plain (name : String) (sup : Option ClassId) : Class where
  name := name
  kind := .ordinary
  loader := none
  accessFlags := 33
  super := sup
  interfaces := #[]
  cf := none
  fields := #[]
  methods := #[]
  instanceTypes := #[]
  staticTypes := #[]
  resolved := #[]
  callSites := []
  init := .initialized
  statics := none
  mirror := none

def pool0 : Array CpInfo := pool [(5, u "<init>"), (0, u "()V"), (1, .class_ 10), (1, u "java/lang/Object")] 113

def k0m0 : Method := { name := "<init>", desc := "()V", sig := { parameters := [], returnType := none }, accessFlags := 1, code := none }
/-- java/lang/Object -/
def k0 : Class := { plain "java/lang/Object" none with
  accessFlags := 33
  interfaces := #[]
  cf := some (fileOf pool0 8 #[] #[{ accessFlags := 1, nameIndex := 5, descriptorIndex := 6, attributes := #[] }] 33 0 #[] #[])
  fields := #[]
  methods := #[k0m0]
  instanceTypes := #[]
  staticTypes := #[]
  resolved := Array.replicate 124 none
  statics := none }

def pool1 : Array CpInfo := pool [(2, .class_ 4), (1, u "java/lang/Object"), (0, u "<init>"), (0, u "()V"), (0, .class_ 8), (0, u "com/example/tyche/tyche/lang/FilterExpression$Operator"), (0, .fieldref 7 10), (0, .nameAndType 11 12), (0, u "MIN"), (0, u "Lcom/example/tyche/tyche/lang/FilterExpression$Operator;"), (0, .fieldref 7 14), (0, .nameAndType 15 12), (0, u "MAX"), (0, .fieldref 7 17), (0, .nameAndType 18 12), (0, u "COUNT"), (0, .fieldref 7 20), (0, .nameAndType 21 12), (0, u "SUM"), (0, .fieldref 7 23), (0, .nameAndType 24 12), (0, u "AVG"), (0, .fieldref 7 26), (0, .nameAndType 27 12), (0, u "FIRST"), (0, .fieldref 7 29), (0, .nameAndType 30 12), (0, u "RANGE"), (0, .fieldref 7 32), (0, .nameAndType 33 12), (0, u "FORALL"), (0, .fieldref 7 35), (0, .nameAndType 36 12), (0, u "EXISTS"), (0, .fieldref 7 38), (0, .nameAndType 39 12), (0, u "STATE"), (0, .fieldref 7 41), (0, .nameAndType 42 12), (0, u "ARGMIN"), (0, .fieldref 7 44), (0, .nameAndType 45 12), (0, u "ARGMAX"), (0, .fieldref 7 47), (0, .nameAndType 48 12), (0, u "PRINT"), (0, .fieldref 7 50), (0, .nameAndType 51 12), (0, u "PRINTALL"), (0, .integer 2147483647), (0, .methodref 7 54), (0, .nameAndType 55 56), (0, u "combines"), (0, u "()Z"), (0, .class_ 58), (0, u "com/example/tyche/tyche/lang/OperatorCombinesPinLaw"), (2, u "law"), (0, u "(I)Z")] 9

def k1m0 : Method := { name := "<init>", desc := "()V", sig := { parameters := [], returnType := none }, accessFlags := 1, code := none }
def k1c1 : Code := { maxStack := 4, maxLocals := 4, code := code, exceptionTable := #[], attributes := #[] }
def k1m1 : Method := { name := "law", desc := "(I)Z", sig := { parameters := [.int], returnType := some .boolean }, accessFlags := 9, code := some k1c1 }
/-- com/example/tyche/tyche/lang/OperatorCombinesPinLaw -/
def k1 : Class := { plain "com/example/tyche/tyche/lang/OperatorCombinesPinLaw" (some 0) with
  accessFlags := 49
  interfaces := #[]
  cf := some (fileOf pool1 57 #[] #[{ accessFlags := 1, nameIndex := 5, descriptorIndex := 6, attributes := #[] }, { accessFlags := 9, nameIndex := 61, descriptorIndex := 62, attributes := #[] }] 49 2 #[] #[])
  fields := #[]
  methods := #[k1m0, k1m1]
  instanceTypes := #[]
  staticTypes := #[]
  resolved := Array.replicate 72 none
  statics := none }

def pool2 : Array CpInfo := pool [(1, .class_ 2), (0, u "java/lang/constant/Constable"), (0, .class_ 4), (0, u "java/lang/Object")] 6

/-- java/lang/constant/Constable -/
def k2 : Class := { plain "java/lang/constant/Constable" (some 0) with
  accessFlags := 1537
  interfaces := #[]
  cf := some (fileOf pool2 1 #[] #[] 1537 3 #[] #[])
  fields := #[]
  methods := #[]
  instanceTypes := #[]
  staticTypes := #[]
  resolved := Array.replicate 11 none
  statics := none }

def pool3 : Array CpInfo := pool [(1, .class_ 2), (0, u "java/lang/Comparable"), (0, .class_ 4), (0, u "java/lang/Object")] 7

/-- java/lang/Comparable -/
def k3 : Class := { plain "java/lang/Comparable" (some 0) with
  accessFlags := 1537
  interfaces := #[]
  cf := some (fileOf pool3 1 #[] #[] 1537 3 #[] #[])
  fields := #[]
  methods := #[]
  instanceTypes := #[]
  staticTypes := #[]
  resolved := Array.replicate 12 none
  statics := none }

def pool4 : Array CpInfo := pool [(1, .class_ 2), (0, u "java/io/Serializable"), (0, .class_ 4), (0, u "java/lang/Object")] 2

/-- java/io/Serializable -/
def k4 : Class := { plain "java/io/Serializable" (some 0) with
  accessFlags := 1537
  interfaces := #[]
  cf := some (fileOf pool4 1 #[] #[] 1537 3 #[] #[])
  fields := #[]
  methods := #[]
  instanceTypes := #[]
  staticTypes := #[]
  resolved := Array.replicate 7 none
  statics := none }

def pool5 : Array CpInfo := pool [(2, .class_ 4), (1, u "java/lang/Enum"), (0, u "name"), (0, u "Ljava/lang/String;"), (2, u "ordinal"), (0, u "I"), (1, .class_ 14), (1, u "java/lang/Object"), (4, u "hash"), (86, .class_ 108), (1, u "java/lang/Enum$EnumDesc"), (2, .class_ 112), (0, u "java/lang/constant/Constable"), (0, .class_ 114), (0, u "java/lang/Comparable"), (0, .class_ 116), (0, u "java/io/Serializable")] 87

/-- java/lang/Enum -/
def k5 : Class := { plain "java/lang/Enum" (some 0) with
  accessFlags := 1057
  interfaces := #[2, 3, 4]
  cf := some (fileOf pool5 2 #[.nestMembers #[106]] #[] 1057 12 #[111, 113, 115] #[{ accessFlags := 18, nameIndex := 5, descriptorIndex := 6, attributes := #[] }, { accessFlags := 18, nameIndex := 9, descriptorIndex := 10, attributes := #[] }, { accessFlags := 2, nameIndex := 19, descriptorIndex := 10, attributes := #[] }])
  fields := #[{ name := "name", type := (.object "java/lang/String"), accessFlags := 18, slot := 0, constantValue := 0 }, { name := "ordinal", type := .int, accessFlags := 18, slot := 1, constantValue := 0 }, { name := "hash", type := .int, accessFlags := 2, slot := 2, constantValue := 0 }]
  methods := #[]
  instanceTypes := #[(.object "java/lang/String"), .int, .int]
  staticTypes := #[]
  resolved := Array.replicate 204 none
  statics := none }

def pool6 : Array CpInfo := pool [(1, .class_ 2), (0, u "com/example/tyche/tyche/lang/FilterExpression$Operator"), (2, u "MIN"), (0, u "Lcom/example/tyche/tyche/lang/FilterExpression$Operator;"), (2, u "MAX"), (2, u "COUNT"), (2, u "SUM"), (2, u "AVG"), (2, u "FIRST"), (2, u "RANGE"), (2, u "FORALL"), (2, u "EXISTS"), (2, u "STATE"), (0, .fieldref 1 35), (0, .nameAndType 36 6), (0, u "ARGMIN"), (0, .fieldref 1 38), (0, .nameAndType 39 6), (0, u "ARGMAX"), (0, .fieldref 1 41), (0, .nameAndType 42 6), (0, u "PRINT"), (0, .fieldref 1 44), (0, .nameAndType 45 6), (0, u "PRINTALL"), (2, u "$VALUES"), (0, u "[Lcom/example/tyche/tyche/lang/FilterExpression$Operator;"), (6, .class_ 58), (1, u "java/lang/Enum"), (8, u "operand"), (0, u "Lcom/example/tyche/tyche/lang/FilterExpression$Operator$Operand;"), (8, u "names"), (0, u "Ljava/util/List;"), (111, u "combines"), (0, u "()Z"), (11, .class_ 204), (0, u "com/example/tyche/tyche/lang/FilterExpression")] 22

def k6c0 : Code := { maxStack := 2, maxLocals := 1, code := prog_57_method_6_code, exceptionTable := #[], attributes := #[] }
def k6m0 : Method := { name := "combines", desc := "()Z", sig := { parameters := [], returnType := some .boolean }, accessFlags := 1, code := some k6c0 }
/-- com/example/tyche/tyche/lang/FilterExpression$Operator -/
def k6 : Class := { plain "com/example/tyche/tyche/lang/FilterExpression$Operator" (some 5) with
  accessFlags := 16433
  interfaces := #[]
  cf := some (fileOf pool6 1 #[.nestHost 203] #[{ accessFlags := 1, nameIndex := 190, descriptorIndex := 191, attributes := #[] }] 16433 56 #[] #[{ accessFlags := 16409, nameIndex := 5, descriptorIndex := 6, attributes := #[] }, { accessFlags := 16409, nameIndex := 9, descriptorIndex := 6, attributes := #[] }, { accessFlags := 16409, nameIndex := 12, descriptorIndex := 6, attributes := #[] }, { accessFlags := 16409, nameIndex := 15, descriptorIndex := 6, attributes := #[] }, { accessFlags := 16409, nameIndex := 18, descriptorIndex := 6, attributes := #[] }, { accessFlags := 16409, nameIndex := 21, descriptorIndex := 6, attributes := #[] }, { accessFlags := 16409, nameIndex := 24, descriptorIndex := 6, attributes := #[] }, { accessFlags := 16409, nameIndex := 27, descriptorIndex := 6, attributes := #[] }, { accessFlags := 16409, nameIndex := 30, descriptorIndex := 6, attributes := #[] }, { accessFlags := 16409, nameIndex := 33, descriptorIndex := 6, attributes := #[] }, { accessFlags := 16409, nameIndex := 36, descriptorIndex := 6, attributes := #[] }, { accessFlags := 16409, nameIndex := 39, descriptorIndex := 6, attributes := #[] }, { accessFlags := 16409, nameIndex := 42, descriptorIndex := 6, attributes := #[] }, { accessFlags := 16409, nameIndex := 45, descriptorIndex := 6, attributes := #[] }, { accessFlags := 18, nameIndex := 67, descriptorIndex := 68, attributes := #[] }, { accessFlags := 18, nameIndex := 77, descriptorIndex := 78, attributes := #[] }, { accessFlags := 4122, nameIndex := 48, descriptorIndex := 49, attributes := #[] }])
  fields := #[{ name := "MIN", type := (.object "com/example/tyche/tyche/lang/FilterExpression$Operator"), accessFlags := 16409, slot := 0, constantValue := 0 }, { name := "MAX", type := (.object "com/example/tyche/tyche/lang/FilterExpression$Operator"), accessFlags := 16409, slot := 1, constantValue := 0 }, { name := "COUNT", type := (.object "com/example/tyche/tyche/lang/FilterExpression$Operator"), accessFlags := 16409, slot := 2, constantValue := 0 }, { name := "SUM", type := (.object "com/example/tyche/tyche/lang/FilterExpression$Operator"), accessFlags := 16409, slot := 3, constantValue := 0 }, { name := "AVG", type := (.object "com/example/tyche/tyche/lang/FilterExpression$Operator"), accessFlags := 16409, slot := 4, constantValue := 0 }, { name := "FIRST", type := (.object "com/example/tyche/tyche/lang/FilterExpression$Operator"), accessFlags := 16409, slot := 5, constantValue := 0 }, { name := "RANGE", type := (.object "com/example/tyche/tyche/lang/FilterExpression$Operator"), accessFlags := 16409, slot := 6, constantValue := 0 }, { name := "FORALL", type := (.object "com/example/tyche/tyche/lang/FilterExpression$Operator"), accessFlags := 16409, slot := 7, constantValue := 0 }, { name := "EXISTS", type := (.object "com/example/tyche/tyche/lang/FilterExpression$Operator"), accessFlags := 16409, slot := 8, constantValue := 0 }, { name := "STATE", type := (.object "com/example/tyche/tyche/lang/FilterExpression$Operator"), accessFlags := 16409, slot := 9, constantValue := 0 }, { name := "ARGMIN", type := (.object "com/example/tyche/tyche/lang/FilterExpression$Operator"), accessFlags := 16409, slot := 10, constantValue := 0 }, { name := "ARGMAX", type := (.object "com/example/tyche/tyche/lang/FilterExpression$Operator"), accessFlags := 16409, slot := 11, constantValue := 0 }, { name := "PRINT", type := (.object "com/example/tyche/tyche/lang/FilterExpression$Operator"), accessFlags := 16409, slot := 12, constantValue := 0 }, { name := "PRINTALL", type := (.object "com/example/tyche/tyche/lang/FilterExpression$Operator"), accessFlags := 16409, slot := 13, constantValue := 0 }, { name := "operand", type := (.object "com/example/tyche/tyche/lang/FilterExpression$Operator$Operand"), accessFlags := 18, slot := 3, constantValue := 0 }, { name := "names", type := (.object "java/util/List"), accessFlags := 18, slot := 4, constantValue := 0 }, { name := "$VALUES", type := (.array (.object "com/example/tyche/tyche/lang/FilterExpression$Operator")), accessFlags := 4122, slot := 14, constantValue := 0 }]
  methods := #[k6m0]
  instanceTypes := #[(.object "java/lang/String"), .int, .int, (.object "com/example/tyche/tyche/lang/FilterExpression$Operator$Operand"), (.object "java/util/List")]
  staticTypes := #[(.object "com/example/tyche/tyche/lang/FilterExpression$Operator"), (.object "com/example/tyche/tyche/lang/FilterExpression$Operator"), (.object "com/example/tyche/tyche/lang/FilterExpression$Operator"), (.object "com/example/tyche/tyche/lang/FilterExpression$Operator"), (.object "com/example/tyche/tyche/lang/FilterExpression$Operator"), (.object "com/example/tyche/tyche/lang/FilterExpression$Operator"), (.object "com/example/tyche/tyche/lang/FilterExpression$Operator"), (.object "com/example/tyche/tyche/lang/FilterExpression$Operator"), (.object "com/example/tyche/tyche/lang/FilterExpression$Operator"), (.object "com/example/tyche/tyche/lang/FilterExpression$Operator"), (.object "com/example/tyche/tyche/lang/FilterExpression$Operator"), (.object "com/example/tyche/tyche/lang/FilterExpression$Operator"), (.object "com/example/tyche/tyche/lang/FilterExpression$Operator"), (.object "com/example/tyche/tyche/lang/FilterExpression$Operator"), (.array (.object "com/example/tyche/tyche/lang/FilterExpression$Operator"))]
  resolved := Array.replicate 227 none
  statics := some 0 }

def pool7 : Array CpInfo := pool [(1, u "java/lang/Cloneable"), (0, .class_ 1), (0, u "java/lang/Object"), (0, .class_ 3)] 3

/-- java/lang/Cloneable -/
def k7 : Class := { plain "java/lang/Cloneable" (some 0) with
  accessFlags := 1537
  interfaces := #[]
  cf := some (fileOf pool7 2 #[] #[] 1537 4 #[] #[])
  fields := #[]
  methods := #[]
  instanceTypes := #[]
  staticTypes := #[]
  resolved := Array.replicate 8 none
  statics := none }

/-- the primitive byte -/
def k8 : Class := { plain "byte" none with kind := .primitive 'B', accessFlags := 0x411 }
/-- [B -/
def k9 : Class := { plain "[B" (some 0) with kind := .array 8 .byte, interfaces := #[7, 4], accessFlags := 1041 }

/-- the primitive int -/
def k10 : Class := { plain "int" none with kind := .primitive 'I', accessFlags := 0x411 }
/-- [I -/
def k11 : Class := { plain "[I" (some 0) with kind := .array 10 .int, interfaces := #[7, 4], accessFlags := 1041 }

/-- [Lcom/example/tyche/tyche/lang/FilterExpression$Operator; -/
def k12 : Class := { plain "[Lcom/example/tyche/tyche/lang/FilterExpression$Operator;" (some 0) with kind := .array 6 (.object "com/example/tyche/tyche/lang/FilterExpression$Operator"), interfaces := #[7, 4], accessFlags := 1041 }

def heap : Heap := #[{ cls := 6, slots := #[.ref 1, .ref 2, .ref 3, .ref 4, .ref 5, .ref 6, .ref 7, .ref 8, .ref 9, .ref 10, .ref 11, .ref 12, .ref 13, .ref 14, .null], vm := .statics 6 },
  { cls := 6, slots := #[.null, .int 0, .int 0, .null, .null], vm := .none },
  { cls := 6, slots := #[.null, .int 1, .int 0, .null, .null], vm := .none },
  { cls := 6, slots := #[.null, .int 2, .int 0, .null, .null], vm := .none },
  { cls := 6, slots := #[.null, .int 3, .int 0, .null, .null], vm := .none },
  { cls := 6, slots := #[.null, .int 4, .int 0, .null, .null], vm := .none },
  { cls := 6, slots := #[.null, .int 5, .int 0, .null, .null], vm := .none },
  { cls := 6, slots := #[.null, .int 6, .int 0, .null, .null], vm := .none },
  { cls := 6, slots := #[.null, .int 7, .int 0, .null, .null], vm := .none },
  { cls := 6, slots := #[.null, .int 8, .int 0, .null, .null], vm := .none },
  { cls := 6, slots := #[.null, .int 9, .int 0, .null, .null], vm := .none },
  { cls := 6, slots := #[.null, .int 10, .int 0, .null, .null], vm := .none },
  { cls := 6, slots := #[.null, .int 11, .int 0, .null, .null], vm := .none },
  { cls := 6, slots := #[.null, .int 12, .int 0, .null, .null], vm := .none },
  { cls := 6, slots := #[.null, .int 13, .int 0, .null, .null], vm := .none }]
def classes : Array Class := #[k0, k1, k2, k3, k4, k5, k6, k7, k8, k9, k10, k11, k12]
def interned : List (Array UInt16 × Addr) := []
def slotsUsed : Nat := 85
def theMethod : MethodId := ⟨1, 1⟩
def args0 : Array Value := #[.int 5]
def aboutOver (below : List Frame) : State where
  vm := { classes := classes, interned := interned.toArray }
  heap := heap
  slotsUsed := slotsUsed
  threads := #[{ frames := .invoking theMethod args0 :: below }]
def below0 : List Frame := [.native { method := ⟨0, 0⟩, args := #[] }]
def about1 : State := aboutOver below0
def p0 : Program := .bare "" "" ""
def e0 : Env := launch0.env 0 0 0
theorem w_frames : about1.frames = Frame.invoking theMethod args0 :: below0 := rfl
set_option maxRecDepth 65536 in
theorem w_args : argsFit about1.vm theMethod args0 = true := by decide +kernel
set_option maxRecDepth 65536 in
theorem w_heap : heapFits about1 = true := by decide +kernel
set_option maxRecDepth 65536 in
theorem w_runnable : about1.curStatus? = some .runnable := by decide +kernel
set_option maxRecDepth 65536 in
theorem w_alone : about1.alone = true := by decide +kernel
set_option maxRecDepth 65536 in
theorem w_named : about1.methodNamed? x = some theMethod := by decide +kernel
set_option maxRecDepth 65536 in
theorem w_hears : about1.hears theMethod below0 = true := by decide +kernel
set_option maxRecDepth 65536 in
theorem w_ripe : about1.ripe theMethod args0 below0 = true := by decide +kernel
theorem w_running : about1.status = .running := rfl
set_option maxRecDepth 65536 in
theorem w_room : about1.hasRoom e0.platform room_1 = true :=
  launch0.hasRoom_least _ room_1 (by decide +kernel) (by decide +kernel) (by decide +kernel) (by decide +kernel) (by decide +kernel) (by decide +kernel)
theorem allAtoms_all (ts : List Jvm.Cond) (a : Array Jvm.Value) (st : Jvm.State) : (allAtoms ts).before a st = ts.all (fun c => c.before a st) := by
  induction ts with
  | nil => rfl
  | cons c t ih =>
    show (Jvm.Cond.and c (allAtoms t)).before a st = _
    rw [Jvm.Cond.before_and, ih, List.all_cons]
def words1 : List Jvm.Cond := Jvm.Cond.code x code maxLocals ret :: tables_1
/-- a 'code' word, met by the world's own term for the bytes: nothing is compared byte by byte -/
theorem code_word {y : MethodName} {bytes : ByteArray} {mx : Nat} {rt : Option FieldType} {a : Array Value} {s : State} {m : MethodId} {meth : Method} {c : Code} (h1 : s.methodNamed? y = some m) (h2 : s.vm.method? m = some meth) (h3 : meth.code = some c) (h4 : c.code = bytes)
    (h5 : (c.maxLocals == mx && c.exceptionTable.isEmpty && decide (c.maxStack ≤ mostOperands) && decide (meth.sig.returnType = rt) && !meth.locks && decide (parseMethodDescriptor y.desc = some meth.sig)) = true) : (Jvm.Cond.code y bytes mx rt).before a s = true := by
  simp only [Bool.and_eq_true, beq_iff_eq, Bool.not_eq_true', decide_eq_true_eq] at h5
  obtain ⟨⟨⟨⟨⟨g1, g2⟩, g3⟩, g4⟩, g5⟩, g6⟩ := h5
  simp [Cond.before, Cond.holds, Cond.value, h1, h2, h3, h4, g1, g2, g3, g4, g5, g6]
def isCode : Jvm.Cond → Bool
  | .code _ _ _ _ => true
  | _ => false
theorem all_split {L : List Jvm.Cond} {P : Jvm.Cond → Bool} (h1 : L.all (fun c => isCode c || P c) = true) (h2 : ∀ c ∈ L.filter isCode, P c = true) : L.all P = true := by
  refine List.all_eq_true.mpr fun c hc => ?_
  have h := List.all_eq_true.mp h1 c hc
  rcases Bool.eq_false_or_eq_true (isCode c) with hi | hi
  · exact h2 c (List.mem_filter.mpr ⟨hc, hi⟩)
  · simpa [hi] using h
set_option maxRecDepth 65536 in
theorem w_c0 : (Jvm.Cond.code x code maxLocals ret).before args0 about1 = true := code_word (m := ⟨1, 1⟩) (meth := k1m1) (c := k1c1) (by decide +kernel) rfl rfl rfl (by decide +kernel)
set_option maxRecDepth 65536 in
theorem w_c1 : (Jvm.Cond.code ({ cls := "com/example/tyche/tyche/lang/FilterExpression$Operator", name := "combines", desc := "()Z" } : Jvm.MethodName) prog_57_method_6_code (1 : Nat) (Option.some Jvm.ClassFile.FieldType.boolean)).before args0 about1 = true := code_word (m := ⟨6, 0⟩) (meth := k6m0) (c := k6c0) (by decide +kernel) rfl rfl rfl (by decide +kernel)
def codes1 : List Jvm.Cond := [Jvm.Cond.code x code maxLocals ret, Jvm.Cond.code ({ cls := "com/example/tyche/tyche/lang/FilterExpression$Operator", name := "combines", desc := "()Z" } : Jvm.MethodName) prog_57_method_6_code (1 : Nat) (Option.some Jvm.ClassFile.FieldType.boolean)]
set_option maxRecDepth 65536 in
theorem codes_eq : words1.filter isCode = codes1 := rfl
theorem w_codes : ∀ c ∈ words1.filter isCode, c.before args0 about1 = true := by
  rw [codes_eq]
  intro c hc
  simp only [codes1, List.mem_cons, List.not_mem_nil, or_false] at hc
  rcases hc with rfl | rfl
  · exact w_c0
  · exact w_c1
set_option maxRecDepth 65536 in
theorem w_t1 : (words1.take 24).all (fun c => isCode c || c.before args0 about1) = true := by decide +kernel
set_option maxRecDepth 65536 in
theorem w_t2 : (words1.drop 24).all (fun c => isCode c || c.before args0 about1) = true := by decide +kernel
theorem w_tables : (allAtoms (Jvm.Cond.code x code maxLocals ret :: tables_1)).before args0 about1 = true := by
  rw [allAtoms_all]
  show words1.all (fun c => c.before args0 about1) = true
  refine all_split ?_ w_codes
  rw [← List.take_append_drop 24 words1, List.all_append, w_t1, w_t2]
  rfl
set_option maxRecDepth 65536 in
theorem w_case : (Jvm.Cond.and given_1 narrow_1).before args0 about1 = true := by decide +kernel
theorem w_applies : (headSpec (Jvm.Cond.code x code maxLocals ret :: tables_1) room_1).applies x e0.platform about1 = true :=
  (Spec.applies_iff w_frames).mpr ⟨w_running, w_runnable, w_alone, w_named, w_hears, w_ripe, w_room, w_tables⟩
theorem atStart : AtStart classFile x code maxLocals ret World_1 tables_1 room_1 Calls_1 rest_1 Pre_1 launch0 p0 e0 about1 theMethod args0 below0 :=
  ⟨lists_1, trivial, launch0.admits_env _ _ _, launch0.least_env, fairChoices_fair.cas, fairChoices_fair.clock, w_frames, w_args, w_heap, w_applies, trivial, trivial, w_case⟩
end start1
theorem witness_1 : WitnessClaimed_1 := ⟨start1.p0, start1.e0, start1.about1, start1.theMethod, start1.args0, start1.below0, start1.atStart⟩
end Jvm.Pilot.@@N@@
