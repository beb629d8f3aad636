import JvmDerived
import JvmDerived.Pilot.@@N@@Statement
import JvmDerived.Pilot.@@N@@Code
set_option linter.unusedVariables false
set_option linter.unusedSimpArgs false
namespace Jvm.Pilot.@@N@@
open Jvm Jvm.ClassFile Sem Op Lib Jvm.Free Jvm.Stand Jvm.LawKit Jvm.RoadKit Bundle Jvm.Pilot.@@N@@.Jvm.D
def own_End (p : Program) (e : Env) (below : List Frame) (G : Outcome → State → Prop) (T : State) : Prop := ∃ s₂ o, Steps p.tables e below T s₂ ∧ s₂.status = .running ∧ Ended s₂ below o ∧ G o s₂
theorem own_by {p : Program} {e : Env} {below : List Frame} {G : Outcome → State → Prop} {T T' : State} (h : ∀ t, Steps p.tables e below T' t → Steps p.tables e below T t) (k : own_End p e below G T') : own_End p e below G T := by
  obtain ⟨s₂, o, h1, h2⟩ := k
  exact ⟨s₂, o, h _ h1, h2⟩
abbrev own_Met (l : Launch) (Z : State) (y : MethodName) (bytes : ByteArray) (maxL : Nat) (rt : Option FieldType) (ws : List Jvm.Cond) (rm : Room) (as' : Array Value) (h0 : Heap) (Q : Option Value → Heap → List Loc → Prop) : Prop :=
  MetFree l y (head1 (Jvm.Cond.code y bytes maxL rt :: ws) rm) (fun a U => a = as' ∧ Z.Warmed39 U.vm ∧ U.heap = h0) (fun _ _ _ _ _ => True) (fun _ U o U' => ∃ v L, o = .returned v ∧ Q v U'.heap L ∧ FrameEnd U o U' L rm.cells rm.slots)
theorem own_back {p : Program} {l : Launch} {e : Env} {R : Room} {s Z : State} {args a0 : Array Value} {below : List Frame} {h : Heap} {y : MethodName} {bytes : ByteArray} {maxL : Nat} {rt : Option FieldType} {rm : Room} {len W : Nat} {as' : Array Value} {Q : Option Value → Heap → List Loc → Prop}
    (hM : own_Met l Z y bytes maxL rt [] rm as' h Q) (hZ : Z.Warmed39 s.vm) (wc : (Cond.code y bytes maxL rt).before a0 Z = true) (wz : (Cond.initialized y.cls).before a0 Z = true) (hf : rm.frames + 1 ≤ R.frames) (hl : W + (maxL + 11) + rm.locals ≤ R.locals) :
    Back l R p e below s args y len W (fun A a => a = as' ∧ A.U.heap = h ∧ A.cells + rm.cells ≤ R.cells ∧ A.slots + rm.slots ≤ R.slots) (fun A _ v B => ∃ L, Q v B.U.heap L ∧ B.locs = A.locs ++ L ∧ B.cells = A.cells + rm.cells ∧ B.slots = A.slots + rm.slots) :=
  backOf (Q := Q) hM hZ wc wz hf hl
theorem own_intEq {t : Term} {k : Int32} {args : Array Value} {s : State} (h : (Cond.eq t (Term.int k)).value args s none s [] = some true) : t.eval args s none [] s = some (.int k) := by
  simp only [Cond.value, Term.eval] at h
  cases ht : t.eval args s none [] s with
  | none => simp [ht] at h
  | some x => cases x <;> simp [ht] at h ⊢; exact h
theorem own_mod (k d : Int32) (D : Int) (hd : d.toInt = D) (hD : 0 < D) : 0 ≤ ((k &&& (2147483647 : Int32)) % d).toInt ∧ ((k &&& (2147483647 : Int32)) % d).toInt < D := by
  have h1 : (k &&& (2147483647 : Int32)).toInt = k.toInt % (2 ^ 31 : Nat) := c_mask k (2147483647 : Int32) 31 (by decide) (by decide)
  have h2 := (c_irem (k &&& (2147483647 : Int32)) d D hd).1 (by rw [h1]; omega)
  rw [h2]; exact ⟨Int.emod_nonneg _ (by omega), Int.emod_lt_of_pos _ hD⟩
theorem own_refEq {t u : Term} {x : Addr} {args : Array Value} {s : State} (h : (Cond.eq t u).value args s none s [] = some true) (hu : u.eval args s none [] s = some (.ref x)) : t.eval args s none [] s = some (.ref x) := by
  simp only [Cond.value, hu] at h
  cases ht : t.eval args s none [] s with
  | none => simp [ht] at h
  | some y => cases y <;> simp [ht] at h ⊢; exact h
theorem own_ext {a b c : Heap} (O : Ext a b) (E : Ext b c) : Ext a c := ⟨Nat.le_trans O.1 E.1, fun x q r => E.2 x q (O.2 x q r)⟩
theorem own_extW {b h h' : Heap} {a : Addr} {sl : Nat} {v : Value} (O : Ext b h) (W : Wr h h' a sl v) (q : b.size ≤ a) : Ext b h' :=
  ⟨Nat.le_trans O.1 (Keep.of_wr W).1, fun x c r => (Keep.of_wr W).2.1 x c (O.2 x c r) (ninS (Nat.ne_of_lt (Nat.lt_of_lt_of_le (Array.getElem?_eq_some_iff.mp r).1 q)) nin0)⟩
theorem own_stR {p : Program} {l : Launch} {e : Env} {R : Room} {s : State} {m : MethodId} {args : Array Value} {below : List Frame} {meth : Method} {c : Code} {T : State} {locs : List Loc} {cells slots : Nat} {Z : State} {h : Heap}
    (X : Stand p l e R s m args below meth c T locs cells slots) (hx : p.tables.exec = Jvm.exec) (hZ : Z.Warmed39 s.vm) (eT : T.heap = h) {a y : Addr} {k : ClassId} {C : String} {z : Int32} {vs : List Value} (F : Arv Z h a k (.object C) z vs .null) (Ov : Ovr Z k C) (E : Exa Z h y C)
    {j : Int32} (i : Nat) (hj : j.toNatClampNeg = i) (hjn : ¬ j < 0 ∧ j < z) (hi : i < vs.length) {g : JFrame} (hg : g.method = m) {rest : List Value} (hs : g.stack = .ref y :: .int j :: .ref a :: rest) (hd : decode c.code g.pc = .ok (.aastore, 1)) :
    ∃ T' h', Stand p l e R s m args below meth c T' (locs ++ [⟨a, j.toNatClampNeg⟩]) cells slots ∧ T'.heap = h' ∧ Wr h h' a j.toNatClampNeg (.ref y) ∧ Arv Z h' a k (.object C) z (vs.set i (.ref y)) .null ∧
      ∀ target, Steps p.tables e below (T'.setTop { g with pc := g.pc + 1, stack := rest }) target → Steps p.tables e below (T.setTop g) target := by
  obtain ⟨cl, Ar, q1, S, N, H, G⟩ := F
  obtain ⟨T', h', X', e', W, st⟩ := stR X hx hZ eT Ar (inb_of S hjn) rfl (Sto.ofV Ar q1 Ov (Ins.self E)) hg hs hd
  exact ⟨T', h', X', e', W, Arv.set Ar q1 S N H G rfl W i hj hi, st⟩
theorem own_of15 (k : Int32) : (k &&& (2147483647 : Int32)) % (15 : Int32) = (0 : Int32) ∨ (k &&& (2147483647 : Int32)) % (15 : Int32) = (1 : Int32) ∨ (k &&& (2147483647 : Int32)) % (15 : Int32) = (2 : Int32) ∨ (k &&& (2147483647 : Int32)) % (15 : Int32) = (3 : Int32) ∨ (k &&& (2147483647 : Int32)) % (15 : Int32) = (4 : Int32) ∨ (k &&& (2147483647 : Int32)) % (15 : Int32) = (5 : Int32) ∨ (k &&& (2147483647 : Int32)) % (15 : Int32) = (6 : Int32) ∨ (k &&& (2147483647 : Int32)) % (15 : Int32) = (7 : Int32) ∨ (k &&& (2147483647 : Int32)) % (15 : Int32) = (8 : Int32) ∨ (k &&& (2147483647 : Int32)) % (15 : Int32) = (9 : Int32) ∨ (k &&& (2147483647 : Int32)) % (15 : Int32) = (10 : Int32) ∨ (k &&& (2147483647 : Int32)) % (15 : Int32) = (11 : Int32) ∨ (k &&& (2147483647 : Int32)) % (15 : Int32) = (12 : Int32) ∨ (k &&& (2147483647 : Int32)) % (15 : Int32) = (13 : Int32) ∨ (k &&& (2147483647 : Int32)) % (15 : Int32) = (14 : Int32) := by
  have h := own_mod k 15 15 rfl (by decide)
  simp only [← Int32.toInt_inj]
  have a0 : (0 : Int32).toInt = 0 := rfl
  have a1 : (1 : Int32).toInt = 1 := rfl
  have a2 : (2 : Int32).toInt = 2 := rfl
  have a3 : (3 : Int32).toInt = 3 := rfl
  have a4 : (4 : Int32).toInt = 4 := rfl
  have a5 : (5 : Int32).toInt = 5 := rfl
  have a6 : (6 : Int32).toInt = 6 := rfl
  have a7 : (7 : Int32).toInt = 7 := rfl
  have a8 : (8 : Int32).toInt = 8 := rfl
  have a9 : (9 : Int32).toInt = 9 := rfl
  have a10 : (10 : Int32).toInt = 10 := rfl
  have a11 : (11 : Int32).toInt = 11 := rfl
  have a12 : (12 : Int32).toInt = 12 := rfl
  have a13 : (13 : Int32).toInt = 13 := rfl
  have a14 : (14 : Int32).toInt = 14 := rfl
  omega
theorem own_d_prog_77_method_10_0 : decode prog_77_method_10_code 0 = .ok (.aload_n 0, 1) := by decide +kernel
theorem own_d_prog_77_method_10_1 : decode prog_77_method_10_code 1 = .ok (.getfield 72, 3) := by decide +kernel
theorem own_d_prog_77_method_10_4 : decode prog_77_method_10_code 4 = .ok (.ifnull 7, 3) := by decide +kernel
theorem own_d_prog_77_method_10_7 : decode prog_77_method_10_code 7 = .ok (.iconst 1, 1) := by decide +kernel
theorem own_d_prog_77_method_10_8 : decode prog_77_method_10_code 8 = .ok (.goto 4, 3) := by decide +kernel
theorem own_d_prog_77_method_10_11 : decode prog_77_method_10_code 11 = .ok (.iconst 0, 1) := by decide +kernel
theorem own_d_prog_77_method_10_12 : decode prog_77_method_10_code 12 = .ok (.ireturn, 1) := by decide +kernel
theorem own_d_prog_77_method_8_0 : decode prog_77_method_8_code 0 = .ok (.aload_n 0, 1) := by decide +kernel
theorem own_d_prog_77_method_8_1 : decode prog_77_method_8_code 1 = .ok (.getfield 72, 3) := by decide +kernel
theorem own_d_prog_77_method_8_4 : decode prog_77_method_8_code 4 = .ok (.areturn, 1) := by decide +kernel
theorem own_pd0 : parseMethodDescriptor "()Z" = some ⟨[], some .boolean⟩ := by decide +kernel
theorem own_pd1 : parseMethodDescriptor "()Ljava/lang/String;" = some ⟨[], some (.object "java/lang/String")⟩ := by decide +kernel
theorem own_pn0 : plainName "com/example/linkwright/linkwright/program/Option" = true := by first | (simp [plainName, overriddenIn]; done) | decide +kernel
theorem own_pn1 : plainName "com/example/linkwright/linkwright/program/OptionTakesValuePinLaw" = true := by first | (simp [plainName, overriddenIn]; done) | decide +kernel
set_option maxRecDepth 65536 in
set_option maxHeartbeats 40000000 in
theorem own_tkR (l : Launch) (Z : State) (a0 : Array Value) (hw : ∀ d ∈ tables_1, d.before a0 Z = true) (ws : List Jvm.Cond) (a1 x : Addr) (h0 : Heap) (n0 : Nat) (O : Ext Z.heap h0) (F_p : Fld Z Z.heap a1 "com/example/linkwright/linkwright/program/Option" "placeholder" "Ljava/lang/String;" (.ref x)) :
    own_Met l Z (⟨"com/example/linkwright/linkwright/program/Option", "takesValue", "()Z"⟩ : MethodName) prog_77_method_10_code 1 (some .boolean) ws ({ frames := 0, cells := 0, slots := 0, locals := 0 } : Room) #[(.ref a1)] h0 (fun v h L => v = some (.int 1) ∧ Fr n0 L ∧ h = h0) := by
  refine MetFree.of_bodySF (plainFor_of_name own_pn0) hisR ?_
  intro p e s m args below meth c s₁ Bd hml0 hP hK
  obtain ⟨rfl, hZ, hh⟩ := hP
  have hx := Bd.exec
  have hby := Bd.bytes
  have hml : c.maxLocals = 1 := hml0
  have hown : s.vm.findClass "com/example/linkwright/linkwright/program/Option" = some m.cls := findClass_of_methodNamed Bd.named
  have hnm := (name_of_methodNamed Bd.named Bd.method).1
  have X0 : Stand p l e ({ frames := 0, cells := 0, slots := 0, locals := 0 } : Room) s m #[(.ref a1)] below meth c s₁ [] 0 0 := Stand.of_body Bd
  have e0 : s₁.heap = h0 := by rw [← hh, Bd.state]; rfl
  have N0 := Fr.nil n0
  have ef : entryFrame m #[(.ref a1)] 1 = mkF m 0 #[.val (.ref a1)] [] := by first | (simp [entryFrame, mkF, argsToLocals, Value.category, maxLocals]; done) | rfl
  show own_End p e below _ (s₁.setTop (entryFrame m #[(.ref a1)] 1))
  refine own_by (fun _ k => castTop ef k) ?_
  show own_End p e below _ (s₁.setTop (mkF m 0 #[.val (.ref a1)] []))
  refine own_by (fun _ k => XS.aloadN X0.here hx rfl (hb hby own_d_prog_77_method_10_0) rfl rfl k) ?_
  show own_End p e below _ (s₁.setTop (mkF m 1 #[.val (.ref a1)] [(.ref a1)]))
  obtain ⟨T1, X1, e1, st1⟩ := getF X0 hx hZ hown (host := "") (Or.inl (hw _ (List.mem_of_getElem? (i := 40) rfl))) Via.refl e0 (F_p.ext O) (g := (mkF m 1 #[.val (.ref a1)] [(.ref a1)])) rfl rfl (hb hby own_d_prog_77_method_10_1)
  refine own_by st1 ?_
  show own_End p e below _ (T1.setTop (mkF m 4 #[.val (.ref a1)] [(.ref x)]))
  refine own_by (fun _ k => XS.ifnullNo X1.here hx rfl (hb hby own_d_prog_77_method_10_4) rfl k) ?_
  show own_End p e below _ (T1.setTop (mkF m 7 #[.val (.ref a1)] []))
  refine own_by (fun _ k => XS.iconst X1.here hx rfl (hb hby own_d_prog_77_method_10_7) k) ?_
  show own_End p e below _ (T1.setTop (mkF m 8 #[.val (.ref a1)] [(.int (1 : Int32))]))
  refine own_by (fun _ k => XS.goto X1.here hx rfl (pc0 := 8) (pc' := 12) rfl (hb hby own_d_prog_77_method_10_8) (by decide) (by decide) k) ?_
  show own_End p e below _ (T1.setTop (mkF m 12 #[.val (.ref a1)] [(.int (1 : Int32))]))
  obtain ⟨fs, hr, hrun, hended, hW, hsame⟩ := X1.leave (v := (some (.int (1 : Int32)))) (fun h => by rw [Bd.returns] at h; cases h)
  refine ⟨_, _, retN X1 hx (t := .boolean) Bd.returns (by simp) (hb hby own_d_prog_77_method_10_12) hr, hrun, hended, _, _, rfl, ?_, ⟨_, rfl⟩, hW, hsame.mono (by decide) (by decide)⟩
  exact ⟨rfl, N0, e1⟩
set_option maxRecDepth 65536 in
set_option maxHeartbeats 40000000 in
theorem own_tkN (l : Launch) (Z : State) (a0 : Array Value) (hw : ∀ d ∈ tables_1, d.before a0 Z = true) (ws : List Jvm.Cond) (a1 : Addr) (h0 : Heap) (n0 : Nat) (O : Ext Z.heap h0) (F_p : Fld Z Z.heap a1 "com/example/linkwright/linkwright/program/Option" "placeholder" "Ljava/lang/String;" .null) :
    own_Met l Z (⟨"com/example/linkwright/linkwright/program/Option", "takesValue", "()Z"⟩ : MethodName) prog_77_method_10_code 1 (some .boolean) ws ({ frames := 0, cells := 0, slots := 0, locals := 0 } : Room) #[(.ref a1)] h0 (fun v h L => v = some (.int 0) ∧ Fr n0 L ∧ h = h0) := by
  refine MetFree.of_bodySF (plainFor_of_name own_pn0) hisR ?_
  intro p e s m args below meth c s₁ Bd hml0 hP hK
  obtain ⟨rfl, hZ, hh⟩ := hP
  have hx := Bd.exec
  have hby := Bd.bytes
  have hml : c.maxLocals = 1 := hml0
  have hown : s.vm.findClass "com/example/linkwright/linkwright/program/Option" = some m.cls := findClass_of_methodNamed Bd.named
  have hnm := (name_of_methodNamed Bd.named Bd.method).1
  have X0 : Stand p l e ({ frames := 0, cells := 0, slots := 0, locals := 0 } : Room) s m #[(.ref a1)] below meth c s₁ [] 0 0 := Stand.of_body Bd
  have e0 : s₁.heap = h0 := by rw [← hh, Bd.state]; rfl
  have N0 := Fr.nil n0
  have ef : entryFrame m #[(.ref a1)] 1 = mkF m 0 #[.val (.ref a1)] [] := by first | (simp [entryFrame, mkF, argsToLocals, Value.category, maxLocals]; done) | rfl
  show own_End p e below _ (s₁.setTop (entryFrame m #[(.ref a1)] 1))
  refine own_by (fun _ k => castTop ef k) ?_
  show own_End p e below _ (s₁.setTop (mkF m 0 #[.val (.ref a1)] []))
  refine own_by (fun _ k => XS.aloadN X0.here hx rfl (hb hby own_d_prog_77_method_10_0) rfl rfl k) ?_
  show own_End p e below _ (s₁.setTop (mkF m 1 #[.val (.ref a1)] [(.ref a1)]))
  obtain ⟨T2, X2, e2, st2⟩ := getF X0 hx hZ hown (host := "") (Or.inl (hw _ (List.mem_of_getElem? (i := 40) rfl))) Via.refl e0 (F_p.ext O) (g := (mkF m 1 #[.val (.ref a1)] [(.ref a1)])) rfl rfl (hb hby own_d_prog_77_method_10_1)
  refine own_by st2 ?_
  show own_End p e below _ (T2.setTop (mkF m 4 #[.val (.ref a1)] [.null]))
  refine own_by (fun _ k => XS.ifnullYes X2.here hx rfl (pc0 := 4) (pc' := 11) rfl (hb hby own_d_prog_77_method_10_4) rfl (by decide) (by decide) k) ?_
  show own_End p e below _ (T2.setTop (mkF m 11 #[.val (.ref a1)] []))
  refine own_by (fun _ k => XS.iconst X2.here hx rfl (hb hby own_d_prog_77_method_10_11) k) ?_
  show own_End p e below _ (T2.setTop (mkF m 12 #[.val (.ref a1)] [(.int (0 : Int32))]))
  obtain ⟨fs, hr, hrun, hended, hW, hsame⟩ := X2.leave (v := (some (.int (0 : Int32)))) (fun h => by rw [Bd.returns] at h; cases h)
  refine ⟨_, _, retN X2 hx (t := .boolean) Bd.returns (by simp) (hb hby own_d_prog_77_method_10_12) hr, hrun, hended, _, _, rfl, ?_, ⟨_, rfl⟩, hW, hsame.mono (by decide) (by decide)⟩
  exact ⟨rfl, N0, e2⟩
set_option maxRecDepth 65536 in
set_option maxHeartbeats 40000000 in
theorem own_phR (l : Launch) (Z : State) (a0 : Array Value) (hw : ∀ d ∈ tables_1, d.before a0 Z = true) (ws : List Jvm.Cond) (a1 x : Addr) (h0 : Heap) (n0 : Nat) (O : Ext Z.heap h0) (F_p : Fld Z Z.heap a1 "com/example/linkwright/linkwright/program/Option" "placeholder" "Ljava/lang/String;" (.ref x)) :
    own_Met l Z (⟨"com/example/linkwright/linkwright/program/Option", "placeholder", "()Ljava/lang/String;"⟩ : MethodName) prog_77_method_8_code 1 (some (.object "java/lang/String")) ws ({ frames := 0, cells := 0, slots := 0, locals := 0 } : Room) #[(.ref a1)] h0 (fun v h L => v = some (.ref x) ∧ Fr n0 L ∧ h = h0) := by
  refine MetFree.of_bodySF (plainFor_of_name own_pn0) hisR ?_
  intro p e s m args below meth c s₁ Bd hml0 hP hK
  obtain ⟨rfl, hZ, hh⟩ := hP
  have hx := Bd.exec
  have hby := Bd.bytes
  have hml : c.maxLocals = 1 := hml0
  have hown : s.vm.findClass "com/example/linkwright/linkwright/program/Option" = some m.cls := findClass_of_methodNamed Bd.named
  have hnm := (name_of_methodNamed Bd.named Bd.method).1
  have X0 : Stand p l e ({ frames := 0, cells := 0, slots := 0, locals := 0 } : Room) s m #[(.ref a1)] below meth c s₁ [] 0 0 := Stand.of_body Bd
  have e0 : s₁.heap = h0 := by rw [← hh, Bd.state]; rfl
  have N0 := Fr.nil n0
  have ef : entryFrame m #[(.ref a1)] 1 = mkF m 0 #[.val (.ref a1)] [] := by first | (simp [entryFrame, mkF, argsToLocals, Value.category, maxLocals]; done) | rfl
  show own_End p e below _ (s₁.setTop (entryFrame m #[(.ref a1)] 1))
  refine own_by (fun _ k => castTop ef k) ?_
  show own_End p e below _ (s₁.setTop (mkF m 0 #[.val (.ref a1)] []))
  refine own_by (fun _ k => XS.aloadN X0.here hx rfl (hb hby own_d_prog_77_method_8_0) rfl rfl k) ?_
  show own_End p e below _ (s₁.setTop (mkF m 1 #[.val (.ref a1)] [(.ref a1)]))
  obtain ⟨T3, X3, e3, st3⟩ := getF X0 hx hZ hown (host := "") (Or.inl (hw _ (List.mem_of_getElem? (i := 40) rfl))) Via.refl e0 (F_p.ext O) (g := (mkF m 1 #[.val (.ref a1)] [(.ref a1)])) rfl rfl (hb hby own_d_prog_77_method_8_1)
  refine own_by st3 ?_
  show own_End p e below _ (T3.setTop (mkF m 4 #[.val (.ref a1)] [(.ref x)]))
  obtain ⟨fs, hr, hrun, hended, hW, hsame⟩ := X3.leave (v := (some (.ref x))) (fun h => by rw [Bd.returns] at h; cases h)
  refine ⟨_, _, retOut X3 hx Bd.returns rfl (Or.inr (Or.inr (Or.inr (Or.inr ⟨rfl, rfl, rfl⟩)))) (hb hby own_d_prog_77_method_8_4) hr, hrun, hended, _, _, rfl, ?_, ⟨_, rfl⟩, hW, hsame.mono (by decide) (by decide)⟩
  exact ⟨rfl, N0, e3⟩
set_option maxRecDepth 65536 in
set_option maxHeartbeats 40000000 in
theorem own_phN (l : Launch) (Z : State) (a0 : Array Value) (hw : ∀ d ∈ tables_1, d.before a0 Z = true) (ws : List Jvm.Cond) (a1 : Addr) (h0 : Heap) (n0 : Nat) (O : Ext Z.heap h0) (F_p : Fld Z Z.heap a1 "com/example/linkwright/linkwright/program/Option" "placeholder" "Ljava/lang/String;" .null) :
    own_Met l Z (⟨"com/example/linkwright/linkwright/program/Option", "placeholder", "()Ljava/lang/String;"⟩ : MethodName) prog_77_method_8_code 1 (some (.object "java/lang/String")) ws ({ frames := 0, cells := 0, slots := 0, locals := 0 } : Room) #[(.ref a1)] h0 (fun v h L => v = some (.null) ∧ Fr n0 L ∧ h = h0) := by
  refine MetFree.of_bodySF (plainFor_of_name own_pn0) hisR ?_
  intro p e s m args below meth c s₁ Bd hml0 hP hK
  obtain ⟨rfl, hZ, hh⟩ := hP
  have hx := Bd.exec
  have hby := Bd.bytes
  have hml : c.maxLocals = 1 := hml0
  have hown : s.vm.findClass "com/example/linkwright/linkwright/program/Option" = some m.cls := findClass_of_methodNamed Bd.named
  have hnm := (name_of_methodNamed Bd.named Bd.method).1
  have X0 : Stand p l e ({ frames := 0, cells := 0, slots := 0, locals := 0 } : Room) s m #[(.ref a1)] below meth c s₁ [] 0 0 := Stand.of_body Bd
  have e0 : s₁.heap = h0 := by rw [← hh, Bd.state]; rfl
  have N0 := Fr.nil n0
  have ef : entryFrame m #[(.ref a1)] 1 = mkF m 0 #[.val (.ref a1)] [] := by first | (simp [entryFrame, mkF, argsToLocals, Value.category, maxLocals]; done) | rfl
  show own_End p e below _ (s₁.setTop (entryFrame m #[(.ref a1)] 1))
  refine own_by (fun _ k => castTop ef k) ?_
  show own_End p e below _ (s₁.setTop (mkF m 0 #[.val (.ref a1)] []))
  refine own_by (fun _ k => XS.aloadN X0.here hx rfl (hb hby own_d_prog_77_method_8_0) rfl rfl k) ?_
  show own_End p e below _ (s₁.setTop (mkF m 1 #[.val (.ref a1)] [(.ref a1)]))
  obtain ⟨T4, X4, e4, st4⟩ := getF X0 hx hZ hown (host := "") (Or.inl (hw _ (List.mem_of_getElem? (i := 40) rfl))) Via.refl e0 (F_p.ext O) (g := (mkF m 1 #[.val (.ref a1)] [(.ref a1)])) rfl rfl (hb hby own_d_prog_77_method_8_1)
  refine own_by st4 ?_
  show own_End p e below _ (T4.setTop (mkF m 4 #[.val (.ref a1)] [.null]))
  obtain ⟨fs, hr, hrun, hended, hW, hsame⟩ := X4.leave (v := (some .null)) (fun h => by rw [Bd.returns] at h; cases h)
  refine ⟨_, _, retOut X4 hx Bd.returns rfl (Or.inr (Or.inr (Or.inr (Or.inr ⟨rfl, rfl, rfl⟩)))) (hb hby own_d_prog_77_method_8_4) hr, hrun, hended, _, _, rfl, ?_, ⟨_, rfl⟩, hW, hsame.mono (by decide) (by decide)⟩
  exact ⟨rfl, N0, e4⟩
set_option maxRecDepth 65536 in
set_option maxHeartbeats 40000000 in
theorem own_law (l : Launch) (Z : State) (a0 : Array Value) (hw : ∀ d ∈ tables_1, d.before a0 Z = true) (ws : List Jvm.Cond) (p1 : Int32) (u0 u1 u2 u3 u4 u5 u6 u7 u8 u9 u10 u11 u12 u13 u14 x0 x1 x4 x5 x7 x8 x11 x13 x14 : Addr) (h0 : Heap) (n0 : Nat) (Z0 : n0 ≤ Z.heap.size) (O : Ext Z.heap h0) (S_u0 : Sta Z Z.heap "com/example/linkwright/linkwright/program/Option" "REGISTRY" "Lcom/example/linkwright/linkwright/program/Option;" (.ref u0)) (S_u1 : Sta Z Z.heap "com/example/linkwright/linkwright/program/Option" "REMOTE" "Lcom/example/linkwright/linkwright/program/Option;" (.ref u1)) (S_u2 : Sta Z Z.heap "com/example/linkwright/linkwright/program/Option" "REQUEST" "Lcom/example/linkwright/linkwright/program/Option;" (.ref u2)) (S_u3 : Sta Z Z.heap "com/example/linkwright/linkwright/program/Option" "PLAN" "Lcom/example/linkwright/linkwright/program/Option;" (.ref u3)) (S_u4 : Sta Z Z.heap "com/example/linkwright/linkwright/program/Option" "WSC08" "Lcom/example/linkwright/linkwright/program/Option;" (.ref u4)) (S_u5 : Sta Z Z.heap "com/example/linkwright/linkwright/program/Option" "OBJECTIVE" "Lcom/example/linkwright/linkwright/program/Option;" (.ref u5)) (S_u6 : Sta Z Z.heap "com/example/linkwright/linkwright/program/Option" "ALL" "Lcom/example/linkwright/linkwright/program/Option;" (.ref u6)) (S_u7 : Sta Z Z.heap "com/example/linkwright/linkwright/program/Option" "MAX" "Lcom/example/linkwright/linkwright/program/Option;" (.ref u7)) (S_u8 : Sta Z Z.heap "com/example/linkwright/linkwright/program/Option" "DEADLINE" "Lcom/example/linkwright/linkwright/program/Option;" (.ref u8)) (S_u9 : Sta Z Z.heap "com/example/linkwright/linkwright/program/Option" "CONSUMES" "Lcom/example/linkwright/linkwright/program/Option;" (.ref u9)) (S_u10 : Sta Z Z.heap "com/example/linkwright/linkwright/program/Option" "PRODUCES" "Lcom/example/linkwright/linkwright/program/Option;" (.ref u10)) (S_u11 : Sta Z Z.heap "com/example/linkwright/linkwright/program/Option" "INVOKABLE_WITH" "Lcom/example/linkwright/linkwright/program/Option;" (.ref u11)) (S_u12 : Sta Z Z.heap "com/example/linkwright/linkwright/program/Option" "NAMED" "Lcom/example/linkwright/linkwright/program/Option;" (.ref u12)) (S_u13 : Sta Z Z.heap "com/example/linkwright/linkwright/program/Option" "HOST" "Lcom/example/linkwright/linkwright/program/Option;" (.ref u13)) (S_u14 : Sta Z Z.heap "com/example/linkwright/linkwright/program/Option" "PORT" "Lcom/example/linkwright/linkwright/program/Option;" (.ref u14)) (E_u0 : Exa Z Z.heap u0 "com/example/linkwright/linkwright/program/Option") (E_u1 : Exa Z Z.heap u1 "com/example/linkwright/linkwright/program/Option") (E_u2 : Exa Z Z.heap u2 "com/example/linkwright/linkwright/program/Option") (E_u3 : Exa Z Z.heap u3 "com/example/linkwright/linkwright/program/Option") (E_u4 : Exa Z Z.heap u4 "com/example/linkwright/linkwright/program/Option") (E_u5 : Exa Z Z.heap u5 "com/example/linkwright/linkwright/program/Option") (E_u6 : Exa Z Z.heap u6 "com/example/linkwright/linkwright/program/Option") (E_u7 : Exa Z Z.heap u7 "com/example/linkwright/linkwright/program/Option") (E_u8 : Exa Z Z.heap u8 "com/example/linkwright/linkwright/program/Option") (E_u9 : Exa Z Z.heap u9 "com/example/linkwright/linkwright/program/Option") (E_u10 : Exa Z Z.heap u10 "com/example/linkwright/linkwright/program/Option") (E_u11 : Exa Z Z.heap u11 "com/example/linkwright/linkwright/program/Option") (E_u12 : Exa Z Z.heap u12 "com/example/linkwright/linkwright/program/Option") (E_u13 : Exa Z Z.heap u13 "com/example/linkwright/linkwright/program/Option") (E_u14 : Exa Z Z.heap u14 "com/example/linkwright/linkwright/program/Option") (F_u0 : Fld Z Z.heap u0 "java/lang/Enum" "ordinal" "I" (.int 0)) (F_u1 : Fld Z Z.heap u1 "java/lang/Enum" "ordinal" "I" (.int 1)) (F_u2 : Fld Z Z.heap u2 "java/lang/Enum" "ordinal" "I" (.int 2)) (F_u3 : Fld Z Z.heap u3 "java/lang/Enum" "ordinal" "I" (.int 3)) (F_u4 : Fld Z Z.heap u4 "java/lang/Enum" "ordinal" "I" (.int 4)) (F_u5 : Fld Z Z.heap u5 "java/lang/Enum" "ordinal" "I" (.int 5)) (F_u6 : Fld Z Z.heap u6 "java/lang/Enum" "ordinal" "I" (.int 6)) (F_u7 : Fld Z Z.heap u7 "java/lang/Enum" "ordinal" "I" (.int 7)) (F_u8 : Fld Z Z.heap u8 "java/lang/Enum" "ordinal" "I" (.int 8)) (F_u9 : Fld Z Z.heap u9 "java/lang/Enum" "ordinal" "I" (.int 9)) (F_u10 : Fld Z Z.heap u10 "java/lang/Enum" "ordinal" "I" (.int 10)) (F_u11 : Fld Z Z.heap u11 "java/lang/Enum" "ordinal" "I" (.int 11)) (F_u12 : Fld Z Z.heap u12 "java/lang/Enum" "ordinal" "I" (.int 12)) (F_u13 : Fld Z Z.heap u13 "java/lang/Enum" "ordinal" "I" (.int 13)) (F_u14 : Fld Z Z.heap u14 "java/lang/Enum" "ordinal" "I" (.int 14)) (P_u0 : Fld Z Z.heap u0 "com/example/linkwright/linkwright/program/Option" "placeholder" "Ljava/lang/String;" (.ref x0)) (P_u1 : Fld Z Z.heap u1 "com/example/linkwright/linkwright/program/Option" "placeholder" "Ljava/lang/String;" (.ref x1)) (P_u2 : Fld Z Z.heap u2 "com/example/linkwright/linkwright/program/Option" "placeholder" "Ljava/lang/String;" (.ref x0)) (P_u3 : Fld Z Z.heap u3 "com/example/linkwright/linkwright/program/Option" "placeholder" "Ljava/lang/String;" (.ref x0)) (P_u4 : Fld Z Z.heap u4 "com/example/linkwright/linkwright/program/Option" "placeholder" "Ljava/lang/String;" (.ref x4)) (P_u5 : Fld Z Z.heap u5 "com/example/linkwright/linkwright/program/Option" "placeholder" "Ljava/lang/String;" (.ref x5)) (P_u6 : Fld Z Z.heap u6 "com/example/linkwright/linkwright/program/Option" "placeholder" "Ljava/lang/String;" .null) (P_u7 : Fld Z Z.heap u7 "com/example/linkwright/linkwright/program/Option" "placeholder" "Ljava/lang/String;" (.ref x7)) (P_u8 : Fld Z Z.heap u8 "com/example/linkwright/linkwright/program/Option" "placeholder" "Ljava/lang/String;" (.ref x8)) (P_u9 : Fld Z Z.heap u9 "com/example/linkwright/linkwright/program/Option" "placeholder" "Ljava/lang/String;" (.ref x11)) (P_u10 : Fld Z Z.heap u10 "com/example/linkwright/linkwright/program/Option" "placeholder" "Ljava/lang/String;" (.ref x11)) (P_u11 : Fld Z Z.heap u11 "com/example/linkwright/linkwright/program/Option" "placeholder" "Ljava/lang/String;" (.ref x11)) (P_u12 : Fld Z Z.heap u12 "com/example/linkwright/linkwright/program/Option" "placeholder" "Ljava/lang/String;" (.ref x11)) (P_u13 : Fld Z Z.heap u13 "com/example/linkwright/linkwright/program/Option" "placeholder" "Ljava/lang/String;" (.ref x13)) (P_u14 : Fld Z Z.heap u14 "com/example/linkwright/linkwright/program/Option" "placeholder" "Ljava/lang/String;" (.ref x14)) :
    own_Met l Z x code maxLocals ret ws room_1 #[(.int p1)] h0 (fun v h L => v = some (.int 1) ∧ Fr n0 L) := by
  refine MetFree.of_bodySF (plainFor_of_name own_pn1) hisR ?_
  intro p e s m args below meth c s₁ Bd hml0 hP hK
  obtain ⟨rfl, hZ, hh⟩ := hP
  have hx := Bd.exec
  have hby := Bd.bytes
  have hml : c.maxLocals = 5 := hml0
  have hown : s.vm.findClass "com/example/linkwright/linkwright/program/OptionTakesValuePinLaw" = some m.cls := findClass_of_methodNamed Bd.named
  have hnm := (name_of_methodNamed Bd.named Bd.method).1
  have X0 : Stand p l e room_1 s m #[(.int p1)] below meth c s₁ [] 0 0 := Stand.of_body Bd
  have e0 : s₁.heap = h0 := by rw [← hh, Bd.state]; rfl
  have N0 := Fr.nil n0
  have ef : entryFrame m #[(.int p1)] maxLocals = mkF m 0 #[.val (.int p1), .unset, .unset, .unset, .unset] [] := by first | (simp [entryFrame, mkF, argsToLocals, Value.category, maxLocals]; done) | rfl
  show own_End p e below _ (s₁.setTop (entryFrame m #[(.int p1)] maxLocals))
  refine own_by (fun _ k => castTop ef k) ?_
  show own_End p e below _ (s₁.setTop (mkF m 0 #[.val (.int p1), .unset, .unset, .unset, .unset] []))
  refine own_by (fun _ k => XS.bipush X0.here hx rfl (hb hby at_0) k) ?_
  show own_End p e below _ (s₁.setTop (mkF m 2 #[.val (.int p1), .unset, .unset, .unset, .unset] [(.int (15 : Int32))]))
  obtain ⟨T5, h5, k5, X5, e5, E5, A5, Ov5, st5⟩ := newR X0 hx hZ hown (hw _ (List.mem_of_getElem? (i := 0) rfl)) (hw _ (List.mem_of_getElem? (i := 1) rfl)) e0 (g := (mkF m 2 #[.val (.int p1), .unset, .unset, .unset, .unset] [(.int (15 : Int32))])) rfl (hb hby at_2) rfl (by decide) (cap := 15) (by decide) (by decide) (by decide) (by decide)
  obtain ⟨b5, g5⟩ : ∃ z, z = h0.size := ⟨_, rfl⟩
  rw [← g5] at A5 st5
  have g_b5 : Z.heap.size ≤ b5 := Nat.le_trans O.1 (Nat.le_of_eq g5.symm)
  have O5 := own_ext O E5
  have V5_b5 : Arv Z h5 b5 k5 (.object "com/example/linkwright/linkwright/program/Option") (15 : Int32) [.null, .null, .null, .null, .null, .null, .null, .null, .null, .null, .null, .null, .null, .null, .null] .null := (Arv.new A5 (by decide)).pad (pad_rep [] .null 15)
  refine own_by st5 ?_
  show own_End p e below _ (T5.setTop (mkF m 5 #[.val (.int p1), .unset, .unset, .unset, .unset] [(.ref b5)]))
  refine own_by (fun _ k => XS.dup X5.here hx rfl (hb hby at_5) rfl rfl k) ?_
  show own_End p e below _ (T5.setTop (mkF m 6 #[.val (.int p1), .unset, .unset, .unset, .unset] [(.ref b5), (.ref b5)]))
  refine own_by (fun _ k => XS.iconst X5.here hx rfl (hb hby at_6) k) ?_
  show own_End p e below _ (T5.setTop (mkF m 7 #[.val (.int p1), .unset, .unset, .unset, .unset] [(.int (0 : Int32)), (.ref b5), (.ref b5)]))
  obtain ⟨T6, X6, e6, st6⟩ := getS2 X5 hx hZ hown (host := "") (Or.inl (hw _ (List.mem_of_getElem? (i := 2) rfl))) Via.refl e5 (S_u0.ext O5) (g := (mkF m 7 #[.val (.int p1), .unset, .unset, .unset, .unset] [(.int (0 : Int32)), (.ref b5), (.ref b5)])) rfl (hb hby at_7)
  refine own_by st6 ?_
  show own_End p e below _ (T6.setTop (mkF m 10 #[.val (.int p1), .unset, .unset, .unset, .unset] [(.ref u0), (.int (0 : Int32)), (.ref b5), (.ref b5)]))
  obtain ⟨T7, h7, X7, e7, W7, V7_b5, st7⟩ := own_stR X6 hx hZ e6 V5_b5 Ov5 (E_u0.ext O5) (j := (0 : Int32)) 0 rfl ⟨by decide, by decide⟩ (Nat.le_of_ble_eq_true rfl) (g := (mkF m 10 #[.val (.int p1), .unset, .unset, .unset, .unset] [(.ref u0), (.int (0 : Int32)), (.ref b5), (.ref b5)])) rfl rfl (hb hby at_10)
  have O7 := own_extW O5 W7 g_b5
  have N7 := Fr.snoc X7 N0 (Nat.le_trans Z0 g_b5)
  replace V7_b5 : Arv Z h7 b5 k5 (.object "com/example/linkwright/linkwright/program/Option") (15 : Int32) [(.ref u0), .null, .null, .null, .null, .null, .null, .null, .null, .null, .null, .null, .null, .null, .null] .null := V7_b5
  refine own_by st7 ?_
  show own_End p e below _ (T7.setTop (mkF m 11 #[.val (.int p1), .unset, .unset, .unset, .unset] [(.ref b5)]))
  refine own_by (fun _ k => XS.dup X7.here hx rfl (hb hby at_11) rfl rfl k) ?_
  show own_End p e below _ (T7.setTop (mkF m 12 #[.val (.int p1), .unset, .unset, .unset, .unset] [(.ref b5), (.ref b5)]))
  refine own_by (fun _ k => XS.iconst X7.here hx rfl (hb hby at_12) k) ?_
  show own_End p e below _ (T7.setTop (mkF m 13 #[.val (.int p1), .unset, .unset, .unset, .unset] [(.int (1 : Int32)), (.ref b5), (.ref b5)]))
  obtain ⟨T8, X8, e8, st8⟩ := getS2 X7 hx hZ hown (host := "") (Or.inl (hw _ (List.mem_of_getElem? (i := 6) rfl))) Via.refl e7 (S_u1.ext O7) (g := (mkF m 13 #[.val (.int p1), .unset, .unset, .unset, .unset] [(.int (1 : Int32)), (.ref b5), (.ref b5)])) rfl (hb hby at_13)
  refine own_by st8 ?_
  show own_End p e below _ (T8.setTop (mkF m 16 #[.val (.int p1), .unset, .unset, .unset, .unset] [(.ref u1), (.int (1 : Int32)), (.ref b5), (.ref b5)]))
  obtain ⟨T9, h9, X9, e9, W9, V9_b5, st9⟩ := own_stR X8 hx hZ e8 V7_b5 Ov5 (E_u1.ext O7) (j := (1 : Int32)) 1 rfl ⟨by decide, by decide⟩ (Nat.le_of_ble_eq_true rfl) (g := (mkF m 16 #[.val (.int p1), .unset, .unset, .unset, .unset] [(.ref u1), (.int (1 : Int32)), (.ref b5), (.ref b5)])) rfl rfl (hb hby at_16)
  have O9 := own_extW O7 W9 g_b5
  have N9 := Fr.snoc X9 N7 (Nat.le_trans Z0 g_b5)
  replace V9_b5 : Arv Z h9 b5 k5 (.object "com/example/linkwright/linkwright/program/Option") (15 : Int32) [(.ref u0), (.ref u1), .null, .null, .null, .null, .null, .null, .null, .null, .null, .null, .null, .null, .null] .null := V9_b5
  refine own_by st9 ?_
  show own_End p e below _ (T9.setTop (mkF m 17 #[.val (.int p1), .unset, .unset, .unset, .unset] [(.ref b5)]))
  refine own_by (fun _ k => XS.dup X9.here hx rfl (hb hby at_17) rfl rfl k) ?_
  show own_End p e below _ (T9.setTop (mkF m 18 #[.val (.int p1), .unset, .unset, .unset, .unset] [(.ref b5), (.ref b5)]))
  refine own_by (fun _ k => XS.iconst X9.here hx rfl (hb hby at_18) k) ?_
  show own_End p e below _ (T9.setTop (mkF m 19 #[.val (.int p1), .unset, .unset, .unset, .unset] [(.int (2 : Int32)), (.ref b5), (.ref b5)]))
  obtain ⟨T10, X10, e10, st10⟩ := getS2 X9 hx hZ hown (host := "") (Or.inl (hw _ (List.mem_of_getElem? (i := 8) rfl))) Via.refl e9 (S_u2.ext O9) (g := (mkF m 19 #[.val (.int p1), .unset, .unset, .unset, .unset] [(.int (2 : Int32)), (.ref b5), (.ref b5)])) rfl (hb hby at_19)
  refine own_by st10 ?_
  show own_End p e below _ (T10.setTop (mkF m 22 #[.val (.int p1), .unset, .unset, .unset, .unset] [(.ref u2), (.int (2 : Int32)), (.ref b5), (.ref b5)]))
  obtain ⟨T11, h11, X11, e11, W11, V11_b5, st11⟩ := own_stR X10 hx hZ e10 V9_b5 Ov5 (E_u2.ext O9) (j := (2 : Int32)) 2 rfl ⟨by decide, by decide⟩ (Nat.le_of_ble_eq_true rfl) (g := (mkF m 22 #[.val (.int p1), .unset, .unset, .unset, .unset] [(.ref u2), (.int (2 : Int32)), (.ref b5), (.ref b5)])) rfl rfl (hb hby at_22)
  have O11 := own_extW O9 W11 g_b5
  have N11 := Fr.snoc X11 N9 (Nat.le_trans Z0 g_b5)
  replace V11_b5 : Arv Z h11 b5 k5 (.object "com/example/linkwright/linkwright/program/Option") (15 : Int32) [(.ref u0), (.ref u1), (.ref u2), .null, .null, .null, .null, .null, .null, .null, .null, .null, .null, .null, .null] .null := V11_b5
  refine own_by st11 ?_
  show own_End p e below _ (T11.setTop (mkF m 23 #[.val (.int p1), .unset, .unset, .unset, .unset] [(.ref b5)]))
  refine own_by (fun _ k => XS.dup X11.here hx rfl (hb hby at_23) rfl rfl k) ?_
  show own_End p e below _ (T11.setTop (mkF m 24 #[.val (.int p1), .unset, .unset, .unset, .unset] [(.ref b5), (.ref b5)]))
  refine own_by (fun _ k => XS.iconst X11.here hx rfl (hb hby at_24) k) ?_
  show own_End p e below _ (T11.setTop (mkF m 25 #[.val (.int p1), .unset, .unset, .unset, .unset] [(.int (3 : Int32)), (.ref b5), (.ref b5)]))
  obtain ⟨T12, X12, e12, st12⟩ := getS2 X11 hx hZ hown (host := "") (Or.inl (hw _ (List.mem_of_getElem? (i := 10) rfl))) Via.refl e11 (S_u3.ext O11) (g := (mkF m 25 #[.val (.int p1), .unset, .unset, .unset, .unset] [(.int (3 : Int32)), (.ref b5), (.ref b5)])) rfl (hb hby at_25)
  refine own_by st12 ?_
  show own_End p e below _ (T12.setTop (mkF m 28 #[.val (.int p1), .unset, .unset, .unset, .unset] [(.ref u3), (.int (3 : Int32)), (.ref b5), (.ref b5)]))
  obtain ⟨T13, h13, X13, e13, W13, V13_b5, st13⟩ := own_stR X12 hx hZ e12 V11_b5 Ov5 (E_u3.ext O11) (j := (3 : Int32)) 3 rfl ⟨by decide, by decide⟩ (Nat.le_of_ble_eq_true rfl) (g := (mkF m 28 #[.val (.int p1), .unset, .unset, .unset, .unset] [(.ref u3), (.int (3 : Int32)), (.ref b5), (.ref b5)])) rfl rfl (hb hby at_28)
  have O13 := own_extW O11 W13 g_b5
  have N13 := Fr.snoc X13 N11 (Nat.le_trans Z0 g_b5)
  replace V13_b5 : Arv Z h13 b5 k5 (.object "com/example/linkwright/linkwright/program/Option") (15 : Int32) [(.ref u0), (.ref u1), (.ref u2), (.ref u3), .null, .null, .null, .null, .null, .null, .null, .null, .null, .null, .null] .null := V13_b5
  refine own_by st13 ?_
  show own_End p e below _ (T13.setTop (mkF m 29 #[.val (.int p1), .unset, .unset, .unset, .unset] [(.ref b5)]))
  refine own_by (fun _ k => XS.dup X13.here hx rfl (hb hby at_29) rfl rfl k) ?_
  show own_End p e below _ (T13.setTop (mkF m 30 #[.val (.int p1), .unset, .unset, .unset, .unset] [(.ref b5), (.ref b5)]))
  refine own_by (fun _ k => XS.iconst X13.here hx rfl (hb hby at_30) k) ?_
  show own_End p e below _ (T13.setTop (mkF m 31 #[.val (.int p1), .unset, .unset, .unset, .unset] [(.int (4 : Int32)), (.ref b5), (.ref b5)]))
  obtain ⟨T14, X14, e14, st14⟩ := getS2 X13 hx hZ hown (host := "") (Or.inl (hw _ (List.mem_of_getElem? (i := 12) rfl))) Via.refl e13 (S_u4.ext O13) (g := (mkF m 31 #[.val (.int p1), .unset, .unset, .unset, .unset] [(.int (4 : Int32)), (.ref b5), (.ref b5)])) rfl (hb hby at_31)
  refine own_by st14 ?_
  show own_End p e below _ (T14.setTop (mkF m 34 #[.val (.int p1), .unset, .unset, .unset, .unset] [(.ref u4), (.int (4 : Int32)), (.ref b5), (.ref b5)]))
  obtain ⟨T15, h15, X15, e15, W15, V15_b5, st15⟩ := own_stR X14 hx hZ e14 V13_b5 Ov5 (E_u4.ext O13) (j := (4 : Int32)) 4 rfl ⟨by decide, by decide⟩ (Nat.le_of_ble_eq_true rfl) (g := (mkF m 34 #[.val (.int p1), .unset, .unset, .unset, .unset] [(.ref u4), (.int (4 : Int32)), (.ref b5), (.ref b5)])) rfl rfl (hb hby at_34)
  have O15 := own_extW O13 W15 g_b5
  have N15 := Fr.snoc X15 N13 (Nat.le_trans Z0 g_b5)
  replace V15_b5 : Arv Z h15 b5 k5 (.object "com/example/linkwright/linkwright/program/Option") (15 : Int32) [(.ref u0), (.ref u1), (.ref u2), (.ref u3), (.ref u4), .null, .null, .null, .null, .null, .null, .null, .null, .null, .null] .null := V15_b5
  refine own_by st15 ?_
  show own_End p e below _ (T15.setTop (mkF m 35 #[.val (.int p1), .unset, .unset, .unset, .unset] [(.ref b5)]))
  refine own_by (fun _ k => XS.dup X15.here hx rfl (hb hby at_35) rfl rfl k) ?_
  show own_End p e below _ (T15.setTop (mkF m 36 #[.val (.int p1), .unset, .unset, .unset, .unset] [(.ref b5), (.ref b5)]))
  refine own_by (fun _ k => XS.iconst X15.here hx rfl (hb hby at_36) k) ?_
  show own_End p e below _ (T15.setTop (mkF m 37 #[.val (.int p1), .unset, .unset, .unset, .unset] [(.int (5 : Int32)), (.ref b5), (.ref b5)]))
  obtain ⟨T16, X16, e16, st16⟩ := getS2 X15 hx hZ hown (host := "") (Or.inl (hw _ (List.mem_of_getElem? (i := 14) rfl))) Via.refl e15 (S_u5.ext O15) (g := (mkF m 37 #[.val (.int p1), .unset, .unset, .unset, .unset] [(.int (5 : Int32)), (.ref b5), (.ref b5)])) rfl (hb hby at_37)
  refine own_by st16 ?_
  show own_End p e below _ (T16.setTop (mkF m 40 #[.val (.int p1), .unset, .unset, .unset, .unset] [(.ref u5), (.int (5 : Int32)), (.ref b5), (.ref b5)]))
  obtain ⟨T17, h17, X17, e17, W17, V17_b5, st17⟩ := own_stR X16 hx hZ e16 V15_b5 Ov5 (E_u5.ext O15) (j := (5 : Int32)) 5 rfl ⟨by decide, by decide⟩ (Nat.le_of_ble_eq_true rfl) (g := (mkF m 40 #[.val (.int p1), .unset, .unset, .unset, .unset] [(.ref u5), (.int (5 : Int32)), (.ref b5), (.ref b5)])) rfl rfl (hb hby at_40)
  have O17 := own_extW O15 W17 g_b5
  have N17 := Fr.snoc X17 N15 (Nat.le_trans Z0 g_b5)
  replace V17_b5 : Arv Z h17 b5 k5 (.object "com/example/linkwright/linkwright/program/Option") (15 : Int32) [(.ref u0), (.ref u1), (.ref u2), (.ref u3), (.ref u4), (.ref u5), .null, .null, .null, .null, .null, .null, .null, .null, .null] .null := V17_b5
  refine own_by st17 ?_
  show own_End p e below _ (T17.setTop (mkF m 41 #[.val (.int p1), .unset, .unset, .unset, .unset] [(.ref b5)]))
  refine own_by (fun _ k => XS.dup X17.here hx rfl (hb hby at_41) rfl rfl k) ?_
  show own_End p e below _ (T17.setTop (mkF m 42 #[.val (.int p1), .unset, .unset, .unset, .unset] [(.ref b5), (.ref b5)]))
  refine own_by (fun _ k => XS.bipush X17.here hx rfl (hb hby at_42) k) ?_
  show own_End p e below _ (T17.setTop (mkF m 44 #[.val (.int p1), .unset, .unset, .unset, .unset] [(.int (6 : Int32)), (.ref b5), (.ref b5)]))
  obtain ⟨T18, X18, e18, st18⟩ := getS2 X17 hx hZ hown (host := "") (Or.inl (hw _ (List.mem_of_getElem? (i := 16) rfl))) Via.refl e17 (S_u6.ext O17) (g := (mkF m 44 #[.val (.int p1), .unset, .unset, .unset, .unset] [(.int (6 : Int32)), (.ref b5), (.ref b5)])) rfl (hb hby at_44)
  refine own_by st18 ?_
  show own_End p e below _ (T18.setTop (mkF m 47 #[.val (.int p1), .unset, .unset, .unset, .unset] [(.ref u6), (.int (6 : Int32)), (.ref b5), (.ref b5)]))
  obtain ⟨T19, h19, X19, e19, W19, V19_b5, st19⟩ := own_stR X18 hx hZ e18 V17_b5 Ov5 (E_u6.ext O17) (j := (6 : Int32)) 6 rfl ⟨by decide, by decide⟩ (Nat.le_of_ble_eq_true rfl) (g := (mkF m 47 #[.val (.int p1), .unset, .unset, .unset, .unset] [(.ref u6), (.int (6 : Int32)), (.ref b5), (.ref b5)])) rfl rfl (hb hby at_47)
  have O19 := own_extW O17 W19 g_b5
  have N19 := Fr.snoc X19 N17 (Nat.le_trans Z0 g_b5)
  replace V19_b5 : Arv Z h19 b5 k5 (.object "com/example/linkwright/linkwright/program/Option") (15 : Int32) [(.ref u0), (.ref u1), (.ref u2), (.ref u3), (.ref u4), (.ref u5), (.ref u6), .null, .null, .null, .null, .null, .null, .null, .null] .null := V19_b5
  refine own_by st19 ?_
  show own_End p e below _ (T19.setTop (mkF m 48 #[.val (.int p1), .unset, .unset, .unset, .unset] [(.ref b5)]))
  refine own_by (fun _ k => XS.dup X19.here hx rfl (hb hby at_48) rfl rfl k) ?_
  show own_End p e below _ (T19.setTop (mkF m 49 #[.val (.int p1), .unset, .unset, .unset, .unset] [(.ref b5), (.ref b5)]))
  refine own_by (fun _ k => XS.bipush X19.here hx rfl (hb hby at_49) k) ?_
  show own_End p e below _ (T19.setTop (mkF m 51 #[.val (.int p1), .unset, .unset, .unset, .unset] [(.int (7 : Int32)), (.ref b5), (.ref b5)]))
  obtain ⟨T20, X20, e20, st20⟩ := getS2 X19 hx hZ hown (host := "") (Or.inl (hw _ (List.mem_of_getElem? (i := 18) rfl))) Via.refl e19 (S_u7.ext O19) (g := (mkF m 51 #[.val (.int p1), .unset, .unset, .unset, .unset] [(.int (7 : Int32)), (.ref b5), (.ref b5)])) rfl (hb hby at_51)
  refine own_by st20 ?_
  show own_End p e below _ (T20.setTop (mkF m 54 #[.val (.int p1), .unset, .unset, .unset, .unset] [(.ref u7), (.int (7 : Int32)), (.ref b5), (.ref b5)]))
  obtain ⟨T21, h21, X21, e21, W21, V21_b5, st21⟩ := own_stR X20 hx hZ e20 V19_b5 Ov5 (E_u7.ext O19) (j := (7 : Int32)) 7 rfl ⟨by decide, by decide⟩ (Nat.le_of_ble_eq_true rfl) (g := (mkF m 54 #[.val (.int p1), .unset, .unset, .unset, .unset] [(.ref u7), (.int (7 : Int32)), (.ref b5), (.ref b5)])) rfl rfl (hb hby at_54)
  have O21 := own_extW O19 W21 g_b5
  have N21 := Fr.snoc X21 N19 (Nat.le_trans Z0 g_b5)
  replace V21_b5 : Arv Z h21 b5 k5 (.object "com/example/linkwright/linkwright/program/Option") (15 : Int32) [(.ref u0), (.ref u1), (.ref u2), (.ref u3), (.ref u4), (.ref u5), (.ref u6), (.ref u7), .null, .null, .null, .null, .null, .null, .null] .null := V21_b5
  refine own_by st21 ?_
  show own_End p e below _ (T21.setTop (mkF m 55 #[.val (.int p1), .unset, .unset, .unset, .unset] [(.ref b5)]))
  refine own_by (fun _ k => XS.dup X21.here hx rfl (hb hby at_55) rfl rfl k) ?_
  show own_End p e below _ (T21.setTop (mkF m 56 #[.val (.int p1), .unset, .unset, .unset, .unset] [(.ref b5), (.ref b5)]))
  refine own_by (fun _ k => XS.bipush X21.here hx rfl (hb hby at_56) k) ?_
  show own_End p e below _ (T21.setTop (mkF m 58 #[.val (.int p1), .unset, .unset, .unset, .unset] [(.int (8 : Int32)), (.ref b5), (.ref b5)]))
  obtain ⟨T22, X22, e22, st22⟩ := getS2 X21 hx hZ hown (host := "") (Or.inl (hw _ (List.mem_of_getElem? (i := 20) rfl))) Via.refl e21 (S_u8.ext O21) (g := (mkF m 58 #[.val (.int p1), .unset, .unset, .unset, .unset] [(.int (8 : Int32)), (.ref b5), (.ref b5)])) rfl (hb hby at_58)
  refine own_by st22 ?_
  show own_End p e below _ (T22.setTop (mkF m 61 #[.val (.int p1), .unset, .unset, .unset, .unset] [(.ref u8), (.int (8 : Int32)), (.ref b5), (.ref b5)]))
  obtain ⟨T23, h23, X23, e23, W23, V23_b5, st23⟩ := own_stR X22 hx hZ e22 V21_b5 Ov5 (E_u8.ext O21) (j := (8 : Int32)) 8 rfl ⟨by decide, by decide⟩ (Nat.le_of_ble_eq_true rfl) (g := (mkF m 61 #[.val (.int p1), .unset, .unset, .unset, .unset] [(.ref u8), (.int (8 : Int32)), (.ref b5), (.ref b5)])) rfl rfl (hb hby at_61)
  have O23 := own_extW O21 W23 g_b5
  have N23 := Fr.snoc X23 N21 (Nat.le_trans Z0 g_b5)
  replace V23_b5 : Arv Z h23 b5 k5 (.object "com/example/linkwright/linkwright/program/Option") (15 : Int32) [(.ref u0), (.ref u1), (.ref u2), (.ref u3), (.ref u4), (.ref u5), (.ref u6), (.ref u7), (.ref u8), .null, .null, .null, .null, .null, .null] .null := V23_b5
  refine own_by st23 ?_
  show own_End p e below _ (T23.setTop (mkF m 62 #[.val (.int p1), .unset, .unset, .unset, .unset] [(.ref b5)]))
  refine own_by (fun _ k => XS.dup X23.here hx rfl (hb hby at_62) rfl rfl k) ?_
  show own_End p e below _ (T23.setTop (mkF m 63 #[.val (.int p1), .unset, .unset, .unset, .unset] [(.ref b5), (.ref b5)]))
  refine own_by (fun _ k => XS.bipush X23.here hx rfl (hb hby at_63) k) ?_
  show own_End p e below _ (T23.setTop (mkF m 65 #[.val (.int p1), .unset, .unset, .unset, .unset] [(.int (9 : Int32)), (.ref b5), (.ref b5)]))
  obtain ⟨T24, X24, e24, st24⟩ := getS2 X23 hx hZ hown (host := "") (Or.inl (hw _ (List.mem_of_getElem? (i := 22) rfl))) Via.refl e23 (S_u9.ext O23) (g := (mkF m 65 #[.val (.int p1), .unset, .unset, .unset, .unset] [(.int (9 : Int32)), (.ref b5), (.ref b5)])) rfl (hb hby at_65)
  refine own_by st24 ?_
  show own_End p e below _ (T24.setTop (mkF m 68 #[.val (.int p1), .unset, .unset, .unset, .unset] [(.ref u9), (.int (9 : Int32)), (.ref b5), (.ref b5)]))
  obtain ⟨T25, h25, X25, e25, W25, V25_b5, st25⟩ := own_stR X24 hx hZ e24 V23_b5 Ov5 (E_u9.ext O23) (j := (9 : Int32)) 9 rfl ⟨by decide, by decide⟩ (Nat.le_of_ble_eq_true rfl) (g := (mkF m 68 #[.val (.int p1), .unset, .unset, .unset, .unset] [(.ref u9), (.int (9 : Int32)), (.ref b5), (.ref b5)])) rfl rfl (hb hby at_68)
  have O25 := own_extW O23 W25 g_b5
  have N25 := Fr.snoc X25 N23 (Nat.le_trans Z0 g_b5)
  replace V25_b5 : Arv Z h25 b5 k5 (.object "com/example/linkwright/linkwright/program/Option") (15 : Int32) [(.ref u0), (.ref u1), (.ref u2), (.ref u3), (.ref u4), (.ref u5), (.ref u6), (.ref u7), (.ref u8), (.ref u9), .null, .null, .null, .null, .null] .null := V25_b5
  refine own_by st25 ?_
  show own_End p e below _ (T25.setTop (mkF m 69 #[.val (.int p1), .unset, .unset, .unset, .unset] [(.ref b5)]))
  refine own_by (fun _ k => XS.dup X25.here hx rfl (hb hby at_69) rfl rfl k) ?_
  show own_End p e below _ (T25.setTop (mkF m 70 #[.val (.int p1), .unset, .unset, .unset, .unset] [(.ref b5), (.ref b5)]))
  refine own_by (fun _ k => XS.bipush X25.here hx rfl (hb hby at_70) k) ?_
  show own_End p e below _ (T25.setTop (mkF m 72 #[.val (.int p1), .unset, .unset, .unset, .unset] [(.int (10 : Int32)), (.ref b5), (.ref b5)]))
  obtain ⟨T26, X26, e26, st26⟩ := getS2 X25 hx hZ hown (host := "") (Or.inl (hw _ (List.mem_of_getElem? (i := 24) rfl))) Via.refl e25 (S_u10.ext O25) (g := (mkF m 72 #[.val (.int p1), .unset, .unset, .unset, .unset] [(.int (10 : Int32)), (.ref b5), (.ref b5)])) rfl (hb hby at_72)
  refine own_by st26 ?_
  show own_End p e below _ (T26.setTop (mkF m 75 #[.val (.int p1), .unset, .unset, .unset, .unset] [(.ref u10), (.int (10 : Int32)), (.ref b5), (.ref b5)]))
  obtain ⟨T27, h27, X27, e27, W27, V27_b5, st27⟩ := own_stR X26 hx hZ e26 V25_b5 Ov5 (E_u10.ext O25) (j := (10 : Int32)) 10 rfl ⟨by decide, by decide⟩ (Nat.le_of_ble_eq_true rfl) (g := (mkF m 75 #[.val (.int p1), .unset, .unset, .unset, .unset] [(.ref u10), (.int (10 : Int32)), (.ref b5), (.ref b5)])) rfl rfl (hb hby at_75)
  have O27 := own_extW O25 W27 g_b5
  have N27 := Fr.snoc X27 N25 (Nat.le_trans Z0 g_b5)
  replace V27_b5 : Arv Z h27 b5 k5 (.object "com/example/linkwright/linkwright/program/Option") (15 : Int32) [(.ref u0), (.ref u1), (.ref u2), (.ref u3), (.ref u4), (.ref u5), (.ref u6), (.ref u7), (.ref u8), (.ref u9), (.ref u10), .null, .null, .null, .null] .null := V27_b5
  refine own_by st27 ?_
  show own_End p e below _ (T27.setTop (mkF m 76 #[.val (.int p1), .unset, .unset, .unset, .unset] [(.ref b5)]))
  refine own_by (fun _ k => XS.dup X27.here hx rfl (hb hby at_76) rfl rfl k) ?_
  show own_End p e below _ (T27.setTop (mkF m 77 #[.val (.int p1), .unset, .unset, .unset, .unset] [(.ref b5), (.ref b5)]))
  refine own_by (fun _ k => XS.bipush X27.here hx rfl (hb hby at_77) k) ?_
  show own_End p e below _ (T27.setTop (mkF m 79 #[.val (.int p1), .unset, .unset, .unset, .unset] [(.int (11 : Int32)), (.ref b5), (.ref b5)]))
  obtain ⟨T28, X28, e28, st28⟩ := getS2 X27 hx hZ hown (host := "") (Or.inl (hw _ (List.mem_of_getElem? (i := 26) rfl))) Via.refl e27 (S_u11.ext O27) (g := (mkF m 79 #[.val (.int p1), .unset, .unset, .unset, .unset] [(.int (11 : Int32)), (.ref b5), (.ref b5)])) rfl (hb hby at_79)
  refine own_by st28 ?_
  show own_End p e below _ (T28.setTop (mkF m 82 #[.val (.int p1), .unset, .unset, .unset, .unset] [(.ref u11), (.int (11 : Int32)), (.ref b5), (.ref b5)]))
  obtain ⟨T29, h29, X29, e29, W29, V29_b5, st29⟩ := own_stR X28 hx hZ e28 V27_b5 Ov5 (E_u11.ext O27) (j := (11 : Int32)) 11 rfl ⟨by decide, by decide⟩ (Nat.le_of_ble_eq_true rfl) (g := (mkF m 82 #[.val (.int p1), .unset, .unset, .unset, .unset] [(.ref u11), (.int (11 : Int32)), (.ref b5), (.ref b5)])) rfl rfl (hb hby at_82)
  have O29 := own_extW O27 W29 g_b5
  have N29 := Fr.snoc X29 N27 (Nat.le_trans Z0 g_b5)
  replace V29_b5 : Arv Z h29 b5 k5 (.object "com/example/linkwright/linkwright/program/Option") (15 : Int32) [(.ref u0), (.ref u1), (.ref u2), (.ref u3), (.ref u4), (.ref u5), (.ref u6), (.ref u7), (.ref u8), (.ref u9), (.ref u10), (.ref u11), .null, .null, .null] .null := V29_b5
  refine own_by st29 ?_
  show own_End p e below _ (T29.setTop (mkF m 83 #[.val (.int p1), .unset, .unset, .unset, .unset] [(.ref b5)]))
  refine own_by (fun _ k => XS.dup X29.here hx rfl (hb hby at_83) rfl rfl k) ?_
  show own_End p e below _ (T29.setTop (mkF m 84 #[.val (.int p1), .unset, .unset, .unset, .unset] [(.ref b5), (.ref b5)]))
  refine own_by (fun _ k => XS.bipush X29.here hx rfl (hb hby at_84) k) ?_
  show own_End p e below _ (T29.setTop (mkF m 86 #[.val (.int p1), .unset, .unset, .unset, .unset] [(.int (12 : Int32)), (.ref b5), (.ref b5)]))
  obtain ⟨T30, X30, e30, st30⟩ := getS2 X29 hx hZ hown (host := "") (Or.inl (hw _ (List.mem_of_getElem? (i := 28) rfl))) Via.refl e29 (S_u12.ext O29) (g := (mkF m 86 #[.val (.int p1), .unset, .unset, .unset, .unset] [(.int (12 : Int32)), (.ref b5), (.ref b5)])) rfl (hb hby at_86)
  refine own_by st30 ?_
  show own_End p e below _ (T30.setTop (mkF m 89 #[.val (.int p1), .unset, .unset, .unset, .unset] [(.ref u12), (.int (12 : Int32)), (.ref b5), (.ref b5)]))
  obtain ⟨T31, h31, X31, e31, W31, V31_b5, st31⟩ := own_stR X30 hx hZ e30 V29_b5 Ov5 (E_u12.ext O29) (j := (12 : Int32)) 12 rfl ⟨by decide, by decide⟩ (Nat.le_of_ble_eq_true rfl) (g := (mkF m 89 #[.val (.int p1), .unset, .unset, .unset, .unset] [(.ref u12), (.int (12 : Int32)), (.ref b5), (.ref b5)])) rfl rfl (hb hby at_89)
  have O31 := own_extW O29 W31 g_b5
  have N31 := Fr.snoc X31 N29 (Nat.le_trans Z0 g_b5)
  replace V31_b5 : Arv Z h31 b5 k5 (.object "com/example/linkwright/linkwright/program/Option") (15 : Int32) [(.ref u0), (.ref u1), (.ref u2), (.ref u3), (.ref u4), (.ref u5), (.ref u6), (.ref u7), (.ref u8), (.ref u9), (.ref u10), (.ref u11), (.ref u12), .null, .null] .null := V31_b5
  refine own_by st31 ?_
  show own_End p e below _ (T31.setTop (mkF m 90 #[.val (.int p1), .unset, .unset, .unset, .unset] [(.ref b5)]))
  refine own_by (fun _ k => XS.dup X31.here hx rfl (hb hby at_90) rfl rfl k) ?_
  show own_End p e below _ (T31.setTop (mkF m 91 #[.val (.int p1), .unset, .unset, .unset, .unset] [(.ref b5), (.ref b5)]))
  refine own_by (fun _ k => XS.bipush X31.here hx rfl (hb hby at_91) k) ?_
  show own_End p e below _ (T31.setTop (mkF m 93 #[.val (.int p1), .unset, .unset, .unset, .unset] [(.int (13 : Int32)), (.ref b5), (.ref b5)]))
  obtain ⟨T32, X32, e32, st32⟩ := getS2 X31 hx hZ hown (host := "") (Or.inl (hw _ (List.mem_of_getElem? (i := 30) rfl))) Via.refl e31 (S_u13.ext O31) (g := (mkF m 93 #[.val (.int p1), .unset, .unset, .unset, .unset] [(.int (13 : Int32)), (.ref b5), (.ref b5)])) rfl (hb hby at_93)
  refine own_by st32 ?_
  show own_End p e below _ (T32.setTop (mkF m 96 #[.val (.int p1), .unset, .unset, .unset, .unset] [(.ref u13), (.int (13 : Int32)), (.ref b5), (.ref b5)]))
  obtain ⟨T33, h33, X33, e33, W33, V33_b5, st33⟩ := own_stR X32 hx hZ e32 V31_b5 Ov5 (E_u13.ext O31) (j := (13 : Int32)) 13 rfl ⟨by decide, by decide⟩ (Nat.le_of_ble_eq_true rfl) (g := (mkF m 96 #[.val (.int p1), .unset, .unset, .unset, .unset] [(.ref u13), (.int (13 : Int32)), (.ref b5), (.ref b5)])) rfl rfl (hb hby at_96)
  have O33 := own_extW O31 W33 g_b5
  have N33 := Fr.snoc X33 N31 (Nat.le_trans Z0 g_b5)
  replace V33_b5 : Arv Z h33 b5 k5 (.object "com/example/linkwright/linkwright/program/Option") (15 : Int32) [(.ref u0), (.ref u1), (.ref u2), (.ref u3), (.ref u4), (.ref u5), (.ref u6), (.ref u7), (.ref u8), (.ref u9), (.ref u10), (.ref u11), (.ref u12), (.ref u13), .null] .null := V33_b5
  refine own_by st33 ?_
  show own_End p e below _ (T33.setTop (mkF m 97 #[.val (.int p1), .unset, .unset, .unset, .unset] [(.ref b5)]))
  refine own_by (fun _ k => XS.dup X33.here hx rfl (hb hby at_97) rfl rfl k) ?_
  show own_End p e below _ (T33.setTop (mkF m 98 #[.val (.int p1), .unset, .unset, .unset, .unset] [(.ref b5), (.ref b5)]))
  refine own_by (fun _ k => XS.bipush X33.here hx rfl (hb hby at_98) k) ?_
  show own_End p e below _ (T33.setTop (mkF m 100 #[.val (.int p1), .unset, .unset, .unset, .unset] [(.int (14 : Int32)), (.ref b5), (.ref b5)]))
  obtain ⟨T34, X34, e34, st34⟩ := getS2 X33 hx hZ hown (host := "") (Or.inl (hw _ (List.mem_of_getElem? (i := 32) rfl))) Via.refl e33 (S_u14.ext O33) (g := (mkF m 100 #[.val (.int p1), .unset, .unset, .unset, .unset] [(.int (14 : Int32)), (.ref b5), (.ref b5)])) rfl (hb hby at_100)
  refine own_by st34 ?_
  show own_End p e below _ (T34.setTop (mkF m 103 #[.val (.int p1), .unset, .unset, .unset, .unset] [(.ref u14), (.int (14 : Int32)), (.ref b5), (.ref b5)]))
  obtain ⟨T35, h35, X35, e35, W35, V35_b5, st35⟩ := own_stR X34 hx hZ e34 V33_b5 Ov5 (E_u14.ext O33) (j := (14 : Int32)) 14 rfl ⟨by decide, by decide⟩ (Nat.le_of_ble_eq_true rfl) (g := (mkF m 103 #[.val (.int p1), .unset, .unset, .unset, .unset] [(.ref u14), (.int (14 : Int32)), (.ref b5), (.ref b5)])) rfl rfl (hb hby at_103)
  have O35 := own_extW O33 W35 g_b5
  have N35 := Fr.snoc X35 N33 (Nat.le_trans Z0 g_b5)
  replace V35_b5 : Arv Z h35 b5 k5 (.object "com/example/linkwright/linkwright/program/Option") (15 : Int32) [(.ref u0), (.ref u1), (.ref u2), (.ref u3), (.ref u4), (.ref u5), (.ref u6), (.ref u7), (.ref u8), (.ref u9), (.ref u10), (.ref u11), (.ref u12), (.ref u13), (.ref u14)] .null := V35_b5
  refine own_by st35 ?_
  show own_End p e below _ (T35.setTop (mkF m 104 #[.val (.int p1), .unset, .unset, .unset, .unset] [(.ref b5)]))
  refine own_by (fun _ k => XS.astoreN X35.here hx rfl (hb hby at_104) rfl rfl (l' := #[.val (.int p1), .val (.ref b5), .unset, .unset, .unset]) rfl k) ?_
  show own_End p e below _ (T35.setTop (mkF m 105 #[.val (.int p1), .val (.ref b5), .unset, .unset, .unset] []))
  refine own_by (fun _ k => XS.aloadN X35.here hx rfl (hb hby at_105) rfl rfl k) ?_
  show own_End p e below _ (T35.setTop (mkF m 106 #[.val (.int p1), .val (.ref b5), .unset, .unset, .unset] [(.ref b5)]))
  refine own_by (fun _ k => XS.iloadN X35.here hx rfl (hb hby at_106) rfl k) ?_
  show own_End p e below _ (T35.setTop (mkF m 107 #[.val (.int p1), .val (.ref b5), .unset, .unset, .unset] [(.int p1), (.ref b5)]))
  refine own_by (fun _ k => X35.ldcInt hx hown (mvT hZ (hw _ (List.mem_of_getElem? (i := 34) rfl))) (g := (mkF m 107 #[.val (.int p1), .val (.ref b5), .unset, .unset, .unset] [(.int p1), (.ref b5)])) rfl (hb hby at_107) _ k) ?_
  show own_End p e below _ (T35.setTop (mkF m 109 #[.val (.int p1), .val (.ref b5), .unset, .unset, .unset] [(.int (2147483647 : Int32)), (.int p1), (.ref b5)]))
  refine own_by (fun _ k => XS.iand X35.here hx rfl (hb hby at_109) rfl k) ?_
  show own_End p e below _ (T35.setTop (mkF m 110 #[.val (.int p1), .val (.ref b5), .unset, .unset, .unset] [(.int (p1 &&& (2147483647 : Int32))), (.ref b5)]))
  refine own_by (fun _ k => XS.bipush X35.here hx rfl (hb hby at_110) k) ?_
  show own_End p e below _ (T35.setTop (mkF m 112 #[.val (.int p1), .val (.ref b5), .unset, .unset, .unset] [(.int (15 : Int32)), (.int (p1 &&& (2147483647 : Int32))), (.ref b5)]))
  refine own_by (fun _ k => iremM (g := (mkF m 112 #[.val (.int p1), .val (.ref b5), .unset, .unset, .unset] [(.int (15 : Int32)), (.int (p1 &&& (2147483647 : Int32))), (.ref b5)])) X35 hx rfl (hb hby at_112) rfl (by decide) k) ?_
  show own_End p e below _ (T35.setTop (mkF m 113 #[.val (.int p1), .val (.ref b5), .unset, .unset, .unset] [(.int ((p1 &&& (2147483647 : Int32)) % (15 : Int32))), (.ref b5)]))
  rcases own_of15 p1 with hq | hq | hq | hq | hq | hq | hq | hq | hq | hq | hq | hq | hq | hq | hq
  · -- case 0
    rw [hq]
    show own_End p e below _ (T35.setTop (mkF m 113 #[.val (.int p1), .val (.ref b5), .unset, .unset, .unset] [(.int (0 : Int32)), (.ref b5)]))
    obtain ⟨cl36, Ar36, -, S36, M36, Hs36, -⟩ := V35_b5
    have hin36 : ¬ ((0 : Int32) < 0 ∨ cl36.slots.size ≤ ((0 : Int32)).toNatClampNeg) := inb_of S36 ⟨by decide, by decide⟩
    refine own_by (fun _ k => X35.aaload hx (j := (0 : Int32)) (v := (.ref u0)) (by rw [e35]; exact Ar36.1) (State.isArrayOf_alike hZ.alike Ar36.2.1) rfl Ar36.2.2 hin36 (Has.at Hs36 hin36 rfl) (g := (mkF m 113 #[.val (.int p1), .val (.ref b5), .unset, .unset, .unset] [(.int (0 : Int32)), (.ref b5)])) rfl rfl (hb hby at_113) _ k) ?_
    show own_End p e below _ (T35.setTop (mkF m 114 #[.val (.int p1), .val (.ref b5), .unset, .unset, .unset] [(.ref u0)]))
    refine own_by (fun _ k => XS.astoreN X35.here hx rfl (hb hby at_114) rfl rfl (l' := #[.val (.int p1), .val (.ref b5), .val (.ref u0), .unset, .unset]) rfl k) ?_
    show own_End p e below _ (T35.setTop (mkF m 115 #[.val (.int p1), .val (.ref b5), .val (.ref u0), .unset, .unset] []))
    refine own_by (fun _ k => XS.aloadN X35.here hx rfl (hb hby at_115) rfl rfl k) ?_
    show own_End p e below _ (T35.setTop (mkF m 116 #[.val (.int p1), .val (.ref b5), .val (.ref u0), .unset, .unset] [(.ref u0)]))
    obtain ⟨cq37, kq37, q37a, q37b, q37c⟩ := isOf hZ e35 (E_u0.ext O35)
    obtain ⟨_, _, ⟨T37, L37, k37, n37⟩, -, X37, ⟨Lc37, hQ37, l37, y37, z37⟩, st37⟩ := X35.virtualBack hx (y := (⟨"com/example/linkwright/linkwright/program/Option", "takesValue", "()Z"⟩ : MethodName)) (z := (⟨"com/example/linkwright/linkwright/program/Option", "takesValue", "()Z"⟩ : MethodName)) hown (mvT hZ (hw _ (List.mem_of_getElem? (i := 35) rfl))) (mvT hZ (hw _ (List.mem_of_getElem? (i := 36) rfl))) (notFace_of_selects (args := #[]) (mvT hZ (hw _ (List.mem_of_getElem? (i := 38) rfl)))) (mvT hZ (hw _ (List.mem_of_getElem? (i := 38) rfl))) (mvT hZ (hw _ (List.mem_of_getElem? (i := 37) rfl))) (by decide) (own_back (W := 0) (own_tkR l Z a0 hw [] u0 x0 h35 n0 O35 P_u0) hZ (hw _ (List.mem_of_getElem? (i := 39) rfl)) (hw _ (List.mem_of_getElem? (i := 3) rfl)) (by decide) (by decide)) q37a q37c (g := (mkF m 116 #[.val (.int p1), .val (.ref b5), .val (.ref u0), .unset, .unset] [(.ref u0)])) rfl (by rw [hml]; rfl) (Steps.refl _) (argsL := []) (rest := []) (lenOf own_pd0 rfl) rfl (by show 2 * 0 + _ ≤ _; exact Nat.le_of_eq rfl) (hb hby at_116) (fun _ _ => ⟨rfl, e35, (by decide : 1 + 0 ≤ _), (by decide : 15 + 0 ≤ _)⟩)
    dsimp only [Pt.U, Pt.locs, Pt.cells, Pt.slots] at X37 l37 y37 z37 st37 hQ37
    subst l37 y37 z37
    obtain ⟨rfl, N37q, e37⟩ := hQ37
    have N37 := Fr.app N35 N37q
    refine own_by (fun _ k => st37.trans k) ?_
    show own_End p e below _ (T37.setTop (mkF m 119 #[.val (.int p1), .val (.ref b5), .val (.ref u0), .unset, .unset] [(.int (1 : Int32))]))
    refine own_by (fun _ k => XS.istoreN X37.here hx rfl (hb hby at_119) rfl (l' := #[.val (.int p1), .val (.ref b5), .val (.ref u0), .val (.int (1 : Int32)), .unset]) rfl k) ?_
    show own_End p e below _ (T37.setTop (mkF m 120 #[.val (.int p1), .val (.ref b5), .val (.ref u0), .val (.int (1 : Int32)), .unset] []))
    refine own_by (fun _ k => XS.aloadN X37.here hx rfl (hb hby at_120) rfl rfl k) ?_
    show own_End p e below _ (T37.setTop (mkF m 121 #[.val (.int p1), .val (.ref b5), .val (.ref u0), .val (.int (1 : Int32)), .unset] [(.ref u0)]))
    obtain ⟨T38, X38, e38, st38⟩ := getS2 X37 hx hZ hown (host := "") (Or.inl (hw _ (List.mem_of_getElem? (i := 16) rfl))) Via.refl e37 (S_u6.ext O35) (g := (mkF m 121 #[.val (.int p1), .val (.ref b5), .val (.ref u0), .val (.int (1 : Int32)), .unset] [(.ref u0)])) rfl (hb hby at_121)
    refine own_by st38 ?_
    show own_End p e below _ (T38.setTop (mkF m 124 #[.val (.int p1), .val (.ref b5), .val (.ref u0), .val (.int (1 : Int32)), .unset] [(.ref u6), (.ref u0)]))
    refine own_by (fun _ k => Jvm.RoadKit.acmp (g := (mkF m 124 #[.val (.int p1), .val (.ref b5), .val (.ref u0), .val (.int (1 : Int32)), .unset] [(.ref u6), (.ref u0)])) X38 hx rfl rfl rfl (pc0 := 124) (pc' := 127) (same := false) rfl (hb hby at_124) rfl (decide_eq_false fun q => (F_u0.ne F_u6 (by decide)) (Value.ref.inj q)) (by decide) (by decide) k) ?_
    show own_End p e below _ (T38.setTop (mkF m 127 #[.val (.int p1), .val (.ref b5), .val (.ref u0), .val (.int (1 : Int32)), .unset] []))
    refine own_by (fun _ k => XS.iconst X38.here hx rfl (hb hby at_127) k) ?_
    show own_End p e below _ (T38.setTop (mkF m 128 #[.val (.int p1), .val (.ref b5), .val (.ref u0), .val (.int (1 : Int32)), .unset] [(.int (1 : Int32))]))
    refine own_by (fun _ k => XS.goto X38.here hx rfl (pc0 := 128) (pc' := 132) rfl (hb hby at_128) (by decide) (by decide) k) ?_
    show own_End p e below _ (T38.setTop (mkF m 132 #[.val (.int p1), .val (.ref b5), .val (.ref u0), .val (.int (1 : Int32)), .unset] [(.int (1 : Int32))]))
    refine own_by (fun _ k => XS.istore X38.here hx rfl (hb hby at_132) rfl (l' := #[.val (.int p1), .val (.ref b5), .val (.ref u0), .val (.int (1 : Int32)), .val (.int (1 : Int32))]) rfl k) ?_
    show own_End p e below _ (T38.setTop (mkF m 134 #[.val (.int p1), .val (.ref b5), .val (.ref u0), .val (.int (1 : Int32)), .val (.int (1 : Int32))] []))
    refine own_by (fun _ k => XS.iloadN X38.here hx rfl (hb hby at_134) rfl k) ?_
    show own_End p e below _ (T38.setTop (mkF m 135 #[.val (.int p1), .val (.ref b5), .val (.ref u0), .val (.int (1 : Int32)), .val (.int (1 : Int32))] [(.int (1 : Int32))]))
    refine own_by (fun _ k => XS.iload X38.here hx rfl (hb hby at_135) rfl k) ?_
    show own_End p e below _ (T38.setTop (mkF m 137 #[.val (.int p1), .val (.ref b5), .val (.ref u0), .val (.int (1 : Int32)), .val (.int (1 : Int32))] [(.int (1 : Int32)), (.int (1 : Int32))]))
    refine own_by (fun _ k => XS.icmpNo X38.here hx rfl (hb hby at_137) rfl (teq (by decide)).2 k) ?_
    show own_End p e below _ (T38.setTop (mkF m 140 #[.val (.int p1), .val (.ref b5), .val (.ref u0), .val (.int (1 : Int32)), .val (.int (1 : Int32))] []))
    refine own_by (fun _ k => XS.iloadN X38.here hx rfl (hb hby at_140) rfl k) ?_
    show own_End p e below _ (T38.setTop (mkF m 141 #[.val (.int p1), .val (.ref b5), .val (.ref u0), .val (.int (1 : Int32)), .val (.int (1 : Int32))] [(.int (1 : Int32))]))
    refine own_by (fun _ k => XS.aloadN X38.here hx rfl (hb hby at_141) rfl rfl k) ?_
    show own_End p e below _ (T38.setTop (mkF m 142 #[.val (.int p1), .val (.ref b5), .val (.ref u0), .val (.int (1 : Int32)), .val (.int (1 : Int32))] [(.ref u0), (.int (1 : Int32))]))
    obtain ⟨cq39, kq39, q39a, q39b, q39c⟩ := isOf hZ e38 (E_u0.ext O35)
    obtain ⟨_, _, ⟨T39, L39, k39, n39⟩, -, X39, ⟨Lc39, hQ39, l39, y39, z39⟩, st39⟩ := X38.virtualBack hx (y := (⟨"com/example/linkwright/linkwright/program/Option", "placeholder", "()Ljava/lang/String;"⟩ : MethodName)) (z := (⟨"com/example/linkwright/linkwright/program/Option", "placeholder", "()Ljava/lang/String;"⟩ : MethodName)) hown (mvT hZ (hw _ (List.mem_of_getElem? (i := 42) rfl))) (mvT hZ (hw _ (List.mem_of_getElem? (i := 43) rfl))) (notFace_of_selects (args := #[]) (mvT hZ (hw _ (List.mem_of_getElem? (i := 45) rfl)))) (mvT hZ (hw _ (List.mem_of_getElem? (i := 45) rfl))) (mvT hZ (hw _ (List.mem_of_getElem? (i := 44) rfl))) (by decide) (own_back (W := 1) (own_phR l Z a0 hw [] u0 x0 h35 n0 O35 P_u0) hZ (hw _ (List.mem_of_getElem? (i := 46) rfl)) (hw _ (List.mem_of_getElem? (i := 3) rfl)) (by decide) (by decide)) q39a q39c (g := (mkF m 142 #[.val (.int p1), .val (.ref b5), .val (.ref u0), .val (.int (1 : Int32)), .val (.int (1 : Int32))] [(.ref u0), (.int (1 : Int32))])) rfl (by rw [hml]; rfl) (Steps.refl _) (argsL := []) (rest := [(.int (1 : Int32))]) (lenOf own_pd1 rfl) rfl (by show 2 * 0 + _ ≤ _; exact Nat.le_of_eq rfl) (hb hby at_142) (fun _ _ => ⟨rfl, e38, (by decide : 1 + 0 ≤ _), (by decide : 15 + 0 ≤ _)⟩)
    dsimp only [Pt.U, Pt.locs, Pt.cells, Pt.slots] at X39 l39 y39 z39 st39 hQ39
    subst l39 y39 z39
    obtain ⟨rfl, N39q, e39⟩ := hQ39
    have N39 := Fr.app N37 N39q
    refine own_by (fun _ k => st39.trans k) ?_
    show own_End p e below _ (T39.setTop (mkF m 145 #[.val (.int p1), .val (.ref b5), .val (.ref u0), .val (.int (1 : Int32)), .val (.int (1 : Int32))] [(.ref x0), (.int (1 : Int32))]))
    refine own_by (fun _ k => XS.ifnullNo X39.here hx rfl (hb hby at_145) rfl k) ?_
    show own_End p e below _ (T39.setTop (mkF m 148 #[.val (.int p1), .val (.ref b5), .val (.ref u0), .val (.int (1 : Int32)), .val (.int (1 : Int32))] [(.int (1 : Int32))]))
    refine own_by (fun _ k => XS.iconst X39.here hx rfl (hb hby at_148) k) ?_
    show own_End p e below _ (T39.setTop (mkF m 149 #[.val (.int p1), .val (.ref b5), .val (.ref u0), .val (.int (1 : Int32)), .val (.int (1 : Int32))] [(.int (1 : Int32)), (.int (1 : Int32))]))
    refine own_by (fun _ k => XS.goto X39.here hx rfl (pc0 := 149) (pc' := 153) rfl (hb hby at_149) (by decide) (by decide) k) ?_
    show own_End p e below _ (T39.setTop (mkF m 153 #[.val (.int p1), .val (.ref b5), .val (.ref u0), .val (.int (1 : Int32)), .val (.int (1 : Int32))] [(.int (1 : Int32)), (.int (1 : Int32))]))
    refine own_by (fun _ k => XS.icmpNo X39.here hx rfl (hb hby at_153) rfl (teq (by decide)).2 k) ?_
    show own_End p e below _ (T39.setTop (mkF m 156 #[.val (.int p1), .val (.ref b5), .val (.ref u0), .val (.int (1 : Int32)), .val (.int (1 : Int32))] []))
    refine own_by (fun _ k => XS.iconst X39.here hx rfl (hb hby at_156) k) ?_
    show own_End p e below _ (T39.setTop (mkF m 157 #[.val (.int p1), .val (.ref b5), .val (.ref u0), .val (.int (1 : Int32)), .val (.int (1 : Int32))] [(.int (1 : Int32))]))
    refine own_by (fun _ k => XS.goto X39.here hx rfl (pc0 := 157) (pc' := 161) rfl (hb hby at_157) (by decide) (by decide) k) ?_
    show own_End p e below _ (T39.setTop (mkF m 161 #[.val (.int p1), .val (.ref b5), .val (.ref u0), .val (.int (1 : Int32)), .val (.int (1 : Int32))] [(.int (1 : Int32))]))
    obtain ⟨fs, hr, hrun, hended, hW, hsame⟩ := X39.leave (v := (some (.int (1 : Int32)))) (fun h => by rw [Bd.returns] at h; cases h)
    refine ⟨_, _, retN X39 hx (t := .boolean) Bd.returns (by simp) (hb hby at_161) hr, hrun, hended, _, _, rfl, ?_, ⟨_, rfl⟩, hW, hsame.mono (by decide) (by decide)⟩
    exact ⟨rfl, N39⟩
  · -- case 1
    rw [hq]
    show own_End p e below _ (T35.setTop (mkF m 113 #[.val (.int p1), .val (.ref b5), .unset, .unset, .unset] [(.int (1 : Int32)), (.ref b5)]))
    obtain ⟨cl40, Ar40, -, S40, M40, Hs40, -⟩ := V35_b5
    have hin40 : ¬ ((1 : Int32) < 0 ∨ cl40.slots.size ≤ ((1 : Int32)).toNatClampNeg) := inb_of S40 ⟨by decide, by decide⟩
    refine own_by (fun _ k => X35.aaload hx (j := (1 : Int32)) (v := (.ref u1)) (by rw [e35]; exact Ar40.1) (State.isArrayOf_alike hZ.alike Ar40.2.1) rfl Ar40.2.2 hin40 (Has.at Hs40 hin40 rfl) (g := (mkF m 113 #[.val (.int p1), .val (.ref b5), .unset, .unset, .unset] [(.int (1 : Int32)), (.ref b5)])) rfl rfl (hb hby at_113) _ k) ?_
    show own_End p e below _ (T35.setTop (mkF m 114 #[.val (.int p1), .val (.ref b5), .unset, .unset, .unset] [(.ref u1)]))
    refine own_by (fun _ k => XS.astoreN X35.here hx rfl (hb hby at_114) rfl rfl (l' := #[.val (.int p1), .val (.ref b5), .val (.ref u1), .unset, .unset]) rfl k) ?_
    show own_End p e below _ (T35.setTop (mkF m 115 #[.val (.int p1), .val (.ref b5), .val (.ref u1), .unset, .unset] []))
    refine own_by (fun _ k => XS.aloadN X35.here hx rfl (hb hby at_115) rfl rfl k) ?_
    show own_End p e below _ (T35.setTop (mkF m 116 #[.val (.int p1), .val (.ref b5), .val (.ref u1), .unset, .unset] [(.ref u1)]))
    obtain ⟨cq41, kq41, q41a, q41b, q41c⟩ := isOf hZ e35 (E_u1.ext O35)
    obtain ⟨_, _, ⟨T41, L41, k41, n41⟩, -, X41, ⟨Lc41, hQ41, l41, y41, z41⟩, st41⟩ := X35.virtualBack hx (y := (⟨"com/example/linkwright/linkwright/program/Option", "takesValue", "()Z"⟩ : MethodName)) (z := (⟨"com/example/linkwright/linkwright/program/Option", "takesValue", "()Z"⟩ : MethodName)) hown (mvT hZ (hw _ (List.mem_of_getElem? (i := 35) rfl))) (mvT hZ (hw _ (List.mem_of_getElem? (i := 36) rfl))) (notFace_of_selects (args := #[]) (mvT hZ (hw _ (List.mem_of_getElem? (i := 38) rfl)))) (mvT hZ (hw _ (List.mem_of_getElem? (i := 38) rfl))) (mvT hZ (hw _ (List.mem_of_getElem? (i := 37) rfl))) (by decide) (own_back (W := 0) (own_tkR l Z a0 hw [] u1 x1 h35 n0 O35 P_u1) hZ (hw _ (List.mem_of_getElem? (i := 39) rfl)) (hw _ (List.mem_of_getElem? (i := 3) rfl)) (by decide) (by decide)) q41a q41c (g := (mkF m 116 #[.val (.int p1), .val (.ref b5), .val (.ref u1), .unset, .unset] [(.ref u1)])) rfl (by rw [hml]; rfl) (Steps.refl _) (argsL := []) (rest := []) (lenOf own_pd0 rfl) rfl (by show 2 * 0 + _ ≤ _; exact Nat.le_of_eq rfl) (hb hby at_116) (fun _ _ => ⟨rfl, e35, (by decide : 1 + 0 ≤ _), (by decide : 15 + 0 ≤ _)⟩)
    dsimp only [Pt.U, Pt.locs, Pt.cells, Pt.slots] at X41 l41 y41 z41 st41 hQ41
    subst l41 y41 z41
    obtain ⟨rfl, N41q, e41⟩ := hQ41
    have N41 := Fr.app N35 N41q
    refine own_by (fun _ k => st41.trans k) ?_
    show own_End p e below _ (T41.setTop (mkF m 119 #[.val (.int p1), .val (.ref b5), .val (.ref u1), .unset, .unset] [(.int (1 : Int32))]))
    refine own_by (fun _ k => XS.istoreN X41.here hx rfl (hb hby at_119) rfl (l' := #[.val (.int p1), .val (.ref b5), .val (.ref u1), .val (.int (1 : Int32)), .unset]) rfl k) ?_
    show own_End p e below _ (T41.setTop (mkF m 120 #[.val (.int p1), .val (.ref b5), .val (.ref u1), .val (.int (1 : Int32)), .unset] []))
    refine own_by (fun _ k => XS.aloadN X41.here hx rfl (hb hby at_120) rfl rfl k) ?_
    show own_End p e below _ (T41.setTop (mkF m 121 #[.val (.int p1), .val (.ref b5), .val (.ref u1), .val (.int (1 : Int32)), .unset] [(.ref u1)]))
    obtain ⟨T42, X42, e42, st42⟩ := getS2 X41 hx hZ hown (host := "") (Or.inl (hw _ (List.mem_of_getElem? (i := 16) rfl))) Via.refl e41 (S_u6.ext O35) (g := (mkF m 121 #[.val (.int p1), .val (.ref b5), .val (.ref u1), .val (.int (1 : Int32)), .unset] [(.ref u1)])) rfl (hb hby at_121)
    refine own_by st42 ?_
    show own_End p e below _ (T42.setTop (mkF m 124 #[.val (.int p1), .val (.ref b5), .val (.ref u1), .val (.int (1 : Int32)), .unset] [(.ref u6), (.ref u1)]))
    refine own_by (fun _ k => Jvm.RoadKit.acmp (g := (mkF m 124 #[.val (.int p1), .val (.ref b5), .val (.ref u1), .val (.int (1 : Int32)), .unset] [(.ref u6), (.ref u1)])) X42 hx rfl rfl rfl (pc0 := 124) (pc' := 127) (same := false) rfl (hb hby at_124) rfl (decide_eq_false fun q => (F_u1.ne F_u6 (by decide)) (Value.ref.inj q)) (by decide) (by decide) k) ?_
    show own_End p e below _ (T42.setTop (mkF m 127 #[.val (.int p1), .val (.ref b5), .val (.ref u1), .val (.int (1 : Int32)), .unset] []))
    refine own_by (fun _ k => XS.iconst X42.here hx rfl (hb hby at_127) k) ?_
    show own_End p e below _ (T42.setTop (mkF m 128 #[.val (.int p1), .val (.ref b5), .val (.ref u1), .val (.int (1 : Int32)), .unset] [(.int (1 : Int32))]))
    refine own_by (fun _ k => XS.goto X42.here hx rfl (pc0 := 128) (pc' := 132) rfl (hb hby at_128) (by decide) (by decide) k) ?_
    show own_End p e below _ (T42.setTop (mkF m 132 #[.val (.int p1), .val (.ref b5), .val (.ref u1), .val (.int (1 : Int32)), .unset] [(.int (1 : Int32))]))
    refine own_by (fun _ k => XS.istore X42.here hx rfl (hb hby at_132) rfl (l' := #[.val (.int p1), .val (.ref b5), .val (.ref u1), .val (.int (1 : Int32)), .val (.int (1 : Int32))]) rfl k) ?_
    show own_End p e below _ (T42.setTop (mkF m 134 #[.val (.int p1), .val (.ref b5), .val (.ref u1), .val (.int (1 : Int32)), .val (.int (1 : Int32))] []))
    refine own_by (fun _ k => XS.iloadN X42.here hx rfl (hb hby at_134) rfl k) ?_
    show own_End p e below _ (T42.setTop (mkF m 135 #[.val (.int p1), .val (.ref b5), .val (.ref u1), .val (.int (1 : Int32)), .val (.int (1 : Int32))] [(.int (1 : Int32))]))
    refine own_by (fun _ k => XS.iload X42.here hx rfl (hb hby at_135) rfl k) ?_
    show own_End p e below _ (T42.setTop (mkF m 137 #[.val (.int p1), .val (.ref b5), .val (.ref u1), .val (.int (1 : Int32)), .val (.int (1 : Int32))] [(.int (1 : Int32)), (.int (1 : Int32))]))
    refine own_by (fun _ k => XS.icmpNo X42.here hx rfl (hb hby at_137) rfl (teq (by decide)).2 k) ?_
    show own_End p e below _ (T42.setTop (mkF m 140 #[.val (.int p1), .val (.ref b5), .val (.ref u1), .val (.int (1 : Int32)), .val (.int (1 : Int32))] []))
    refine own_by (fun _ k => XS.iloadN X42.here hx rfl (hb hby at_140) rfl k) ?_
    show own_End p e below _ (T42.setTop (mkF m 141 #[.val (.int p1), .val (.ref b5), .val (.ref u1), .val (.int (1 : Int32)), .val (.int (1 : Int32))] [(.int (1 : Int32))]))
    refine own_by (fun _ k => XS.aloadN X42.here hx rfl (hb hby at_141) rfl rfl k) ?_
    show own_End p e below _ (T42.setTop (mkF m 142 #[.val (.int p1), .val (.ref b5), .val (.ref u1), .val (.int (1 : Int32)), .val (.int (1 : Int32))] [(.ref u1), (.int (1 : Int32))]))
    obtain ⟨cq43, kq43, q43a, q43b, q43c⟩ := isOf hZ e42 (E_u1.ext O35)
    obtain ⟨_, _, ⟨T43, L43, k43, n43⟩, -, X43, ⟨Lc43, hQ43, l43, y43, z43⟩, st43⟩ := X42.virtualBack hx (y := (⟨"com/example/linkwright/linkwright/program/Option", "placeholder", "()Ljava/lang/String;"⟩ : MethodName)) (z := (⟨"com/example/linkwright/linkwright/program/Option", "placeholder", "()Ljava/lang/String;"⟩ : MethodName)) hown (mvT hZ (hw _ (List.mem_of_getElem? (i := 42) rfl))) (mvT hZ (hw _ (List.mem_of_getElem? (i := 43) rfl))) (notFace_of_selects (args := #[]) (mvT hZ (hw _ (List.mem_of_getElem? (i := 45) rfl)))) (mvT hZ (hw _ (List.mem_of_getElem? (i := 45) rfl))) (mvT hZ (hw _ (List.mem_of_getElem? (i := 44) rfl))) (by decide) (own_back (W := 1) (own_phR l Z a0 hw [] u1 x1 h35 n0 O35 P_u1) hZ (hw _ (List.mem_of_getElem? (i := 46) rfl)) (hw _ (List.mem_of_getElem? (i := 3) rfl)) (by decide) (by decide)) q43a q43c (g := (mkF m 142 #[.val (.int p1), .val (.ref b5), .val (.ref u1), .val (.int (1 : Int32)), .val (.int (1 : Int32))] [(.ref u1), (.int (1 : Int32))])) rfl (by rw [hml]; rfl) (Steps.refl _) (argsL := []) (rest := [(.int (1 : Int32))]) (lenOf own_pd1 rfl) rfl (by show 2 * 0 + _ ≤ _; exact Nat.le_of_eq rfl) (hb hby at_142) (fun _ _ => ⟨rfl, e42, (by decide : 1 + 0 ≤ _), (by decide : 15 + 0 ≤ _)⟩)
    dsimp only [Pt.U, Pt.locs, Pt.cells, Pt.slots] at X43 l43 y43 z43 st43 hQ43
    subst l43 y43 z43
    obtain ⟨rfl, N43q, e43⟩ := hQ43
    have N43 := Fr.app N41 N43q
    refine own_by (fun _ k => st43.trans k) ?_
    show own_End p e below _ (T43.setTop (mkF m 145 #[.val (.int p1), .val (.ref b5), .val (.ref u1), .val (.int (1 : Int32)), .val (.int (1 : Int32))] [(.ref x1), (.int (1 : Int32))]))
    refine own_by (fun _ k => XS.ifnullNo X43.here hx rfl (hb hby at_145) rfl k) ?_
    show own_End p e below _ (T43.setTop (mkF m 148 #[.val (.int p1), .val (.ref b5), .val (.ref u1), .val (.int (1 : Int32)), .val (.int (1 : Int32))] [(.int (1 : Int32))]))
    refine own_by (fun _ k => XS.iconst X43.here hx rfl (hb hby at_148) k) ?_
    show own_End p e below _ (T43.setTop (mkF m 149 #[.val (.int p1), .val (.ref b5), .val (.ref u1), .val (.int (1 : Int32)), .val (.int (1 : Int32))] [(.int (1 : Int32)), (.int (1 : Int32))]))
    refine own_by (fun _ k => XS.goto X43.here hx rfl (pc0 := 149) (pc' := 153) rfl (hb hby at_149) (by decide) (by decide) k) ?_
    show own_End p e below _ (T43.setTop (mkF m 153 #[.val (.int p1), .val (.ref b5), .val (.ref u1), .val (.int (1 : Int32)), .val (.int (1 : Int32))] [(.int (1 : Int32)), (.int (1 : Int32))]))
    refine own_by (fun _ k => XS.icmpNo X43.here hx rfl (hb hby at_153) rfl (teq (by decide)).2 k) ?_
    show own_End p e below _ (T43.setTop (mkF m 156 #[.val (.int p1), .val (.ref b5), .val (.ref u1), .val (.int (1 : Int32)), .val (.int (1 : Int32))] []))
    refine own_by (fun _ k => XS.iconst X43.here hx rfl (hb hby at_156) k) ?_
    show own_End p e below _ (T43.setTop (mkF m 157 #[.val (.int p1), .val (.ref b5), .val (.ref u1), .val (.int (1 : Int32)), .val (.int (1 : Int32))] [(.int (1 : Int32))]))
    refine own_by (fun _ k => XS.goto X43.here hx rfl (pc0 := 157) (pc' := 161) rfl (hb hby at_157) (by decide) (by decide) k) ?_
    show own_End p e below _ (T43.setTop (mkF m 161 #[.val (.int p1), .val (.ref b5), .val (.ref u1), .val (.int (1 : Int32)), .val (.int (1 : Int32))] [(.int (1 : Int32))]))
    obtain ⟨fs, hr, hrun, hended, hW, hsame⟩ := X43.leave (v := (some (.int (1 : Int32)))) (fun h => by rw [Bd.returns] at h; cases h)
    refine ⟨_, _, retN X43 hx (t := .boolean) Bd.returns (by simp) (hb hby at_161) hr, hrun, hended, _, _, rfl, ?_, ⟨_, rfl⟩, hW, hsame.mono (by decide) (by decide)⟩
    exact ⟨rfl, N43⟩
  · -- case 2
    rw [hq]
    show own_End p e below _ (T35.setTop (mkF m 113 #[.val (.int p1), .val (.ref b5), .unset, .unset, .unset] [(.int (2 : Int32)), (.ref b5)]))
    obtain ⟨cl44, Ar44, -, S44, M44, Hs44, -⟩ := V35_b5
    have hin44 : ¬ ((2 : Int32) < 0 ∨ cl44.slots.size ≤ ((2 : Int32)).toNatClampNeg) := inb_of S44 ⟨by decide, by decide⟩
    refine own_by (fun _ k => X35.aaload hx (j := (2 : Int32)) (v := (.ref u2)) (by rw [e35]; exact Ar44.1) (State.isArrayOf_alike hZ.alike Ar44.2.1) rfl Ar44.2.2 hin44 (Has.at Hs44 hin44 rfl) (g := (mkF m 113 #[.val (.int p1), .val (.ref b5), .unset, .unset, .unset] [(.int (2 : Int32)), (.ref b5)])) rfl rfl (hb hby at_113) _ k) ?_
    show own_End p e below _ (T35.setTop (mkF m 114 #[.val (.int p1), .val (.ref b5), .unset, .unset, .unset] [(.ref u2)]))
    refine own_by (fun _ k => XS.astoreN X35.here hx rfl (hb hby at_114) rfl rfl (l' := #[.val (.int p1), .val (.ref b5), .val (.ref u2), .unset, .unset]) rfl k) ?_
    show own_End p e below _ (T35.setTop (mkF m 115 #[.val (.int p1), .val (.ref b5), .val (.ref u2), .unset, .unset] []))
    refine own_by (fun _ k => XS.aloadN X35.here hx rfl (hb hby at_115) rfl rfl k) ?_
    show own_End p e below _ (T35.setTop (mkF m 116 #[.val (.int p1), .val (.ref b5), .val (.ref u2), .unset, .unset] [(.ref u2)]))
    obtain ⟨cq45, kq45, q45a, q45b, q45c⟩ := isOf hZ e35 (E_u2.ext O35)
    obtain ⟨_, _, ⟨T45, L45, k45, n45⟩, -, X45, ⟨Lc45, hQ45, l45, y45, z45⟩, st45⟩ := X35.virtualBack hx (y := (⟨"com/example/linkwright/linkwright/program/Option", "takesValue", "()Z"⟩ : MethodName)) (z := (⟨"com/example/linkwright/linkwright/program/Option", "takesValue", "()Z"⟩ : MethodName)) hown (mvT hZ (hw _ (List.mem_of_getElem? (i := 35) rfl))) (mvT hZ (hw _ (List.mem_of_getElem? (i := 36) rfl))) (notFace_of_selects (args := #[]) (mvT hZ (hw _ (List.mem_of_getElem? (i := 38) rfl)))) (mvT hZ (hw _ (List.mem_of_getElem? (i := 38) rfl))) (mvT hZ (hw _ (List.mem_of_getElem? (i := 37) rfl))) (by decide) (own_back (W := 0) (own_tkR l Z a0 hw [] u2 x0 h35 n0 O35 P_u2) hZ (hw _ (List.mem_of_getElem? (i := 39) rfl)) (hw _ (List.mem_of_getElem? (i := 3) rfl)) (by decide) (by decide)) q45a q45c (g := (mkF m 116 #[.val (.int p1), .val (.ref b5), .val (.ref u2), .unset, .unset] [(.ref u2)])) rfl (by rw [hml]; rfl) (Steps.refl _) (argsL := []) (rest := []) (lenOf own_pd0 rfl) rfl (by show 2 * 0 + _ ≤ _; exact Nat.le_of_eq rfl) (hb hby at_116) (fun _ _ => ⟨rfl, e35, (by decide : 1 + 0 ≤ _), (by decide : 15 + 0 ≤ _)⟩)
    dsimp only [Pt.U, Pt.locs, Pt.cells, Pt.slots] at X45 l45 y45 z45 st45 hQ45
    subst l45 y45 z45
    obtain ⟨rfl, N45q, e45⟩ := hQ45
    have N45 := Fr.app N35 N45q
    refine own_by (fun _ k => st45.trans k) ?_
    show own_End p e below _ (T45.setTop (mkF m 119 #[.val (.int p1), .val (.ref b5), .val (.ref u2), .unset, .unset] [(.int (1 : Int32))]))
    refine own_by (fun _ k => XS.istoreN X45.here hx rfl (hb hby at_119) rfl (l' := #[.val (.int p1), .val (.ref b5), .val (.ref u2), .val (.int (1 : Int32)), .unset]) rfl k) ?_
    show own_End p e below _ (T45.setTop (mkF m 120 #[.val (.int p1), .val (.ref b5), .val (.ref u2), .val (.int (1 : Int32)), .unset] []))
    refine own_by (fun _ k => XS.aloadN X45.here hx rfl (hb hby at_120) rfl rfl k) ?_
    show own_End p e below _ (T45.setTop (mkF m 121 #[.val (.int p1), .val (.ref b5), .val (.ref u2), .val (.int (1 : Int32)), .unset] [(.ref u2)]))
    obtain ⟨T46, X46, e46, st46⟩ := getS2 X45 hx hZ hown (host := "") (Or.inl (hw _ (List.mem_of_getElem? (i := 16) rfl))) Via.refl e45 (S_u6.ext O35) (g := (mkF m 121 #[.val (.int p1), .val (.ref b5), .val (.ref u2), .val (.int (1 : Int32)), .unset] [(.ref u2)])) rfl (hb hby at_121)
    refine own_by st46 ?_
    show own_End p e below _ (T46.setTop (mkF m 124 #[.val (.int p1), .val (.ref b5), .val (.ref u2), .val (.int (1 : Int32)), .unset] [(.ref u6), (.ref u2)]))
    refine own_by (fun _ k => Jvm.RoadKit.acmp (g := (mkF m 124 #[.val (.int p1), .val (.ref b5), .val (.ref u2), .val (.int (1 : Int32)), .unset] [(.ref u6), (.ref u2)])) X46 hx rfl rfl rfl (pc0 := 124) (pc' := 127) (same := false) rfl (hb hby at_124) rfl (decide_eq_false fun q => (F_u2.ne F_u6 (by decide)) (Value.ref.inj q)) (by decide) (by decide) k) ?_
    show own_End p e below _ (T46.setTop (mkF m 127 #[.val (.int p1), .val (.ref b5), .val (.ref u2), .val (.int (1 : Int32)), .unset] []))
    refine own_by (fun _ k => XS.iconst X46.here hx rfl (hb hby at_127) k) ?_
    show own_End p e below _ (T46.setTop (mkF m 128 #[.val (.int p1), .val (.ref b5), .val (.ref u2), .val (.int (1 : Int32)), .unset] [(.int (1 : Int32))]))
    refine own_by (fun _ k => XS.goto X46.here hx rfl (pc0 := 128) (pc' := 132) rfl (hb hby at_128) (by decide) (by decide) k) ?_
    show own_End p e below _ (T46.setTop (mkF m 132 #[.val (.int p1), .val (.ref b5), .val (.ref u2), .val (.int (1 : Int32)), .unset] [(.int (1 : Int32))]))
    refine own_by (fun _ k => XS.istore X46.here hx rfl (hb hby at_132) rfl (l' := #[.val (.int p1), .val (.ref b5), .val (.ref u2), .val (.int (1 : Int32)), .val (.int (1 : Int32))]) rfl k) ?_
    show own_End p e below _ (T46.setTop (mkF m 134 #[.val (.int p1), .val (.ref b5), .val (.ref u2), .val (.int (1 : Int32)), .val (.int (1 : Int32))] []))
    refine own_by (fun _ k => XS.iloadN X46.here hx rfl (hb hby at_134) rfl k) ?_
    show own_End p e below _ (T46.setTop (mkF m 135 #[.val (.int p1), .val (.ref b5), .val (.ref u2), .val (.int (1 : Int32)), .val (.int (1 : Int32))] [(.int (1 : Int32))]))
    refine own_by (fun _ k => XS.iload X46.here hx rfl (hb hby at_135) rfl k) ?_
    show own_End p e below _ (T46.setTop (mkF m 137 #[.val (.int p1), .val (.ref b5), .val (.ref u2), .val (.int (1 : Int32)), .val (.int (1 : Int32))] [(.int (1 : Int32)), (.int (1 : Int32))]))
    refine own_by (fun _ k => XS.icmpNo X46.here hx rfl (hb hby at_137) rfl (teq (by decide)).2 k) ?_
    show own_End p e below _ (T46.setTop (mkF m 140 #[.val (.int p1), .val (.ref b5), .val (.ref u2), .val (.int (1 : Int32)), .val (.int (1 : Int32))] []))
    refine own_by (fun _ k => XS.iloadN X46.here hx rfl (hb hby at_140) rfl k) ?_
    show own_End p e below _ (T46.setTop (mkF m 141 #[.val (.int p1), .val (.ref b5), .val (.ref u2), .val (.int (1 : Int32)), .val (.int (1 : Int32))] [(.int (1 : Int32))]))
    refine own_by (fun _ k => XS.aloadN X46.here hx rfl (hb hby at_141) rfl rfl k) ?_
    show own_End p e below _ (T46.setTop (mkF m 142 #[.val (.int p1), .val (.ref b5), .val (.ref u2), .val (.int (1 : Int32)), .val (.int (1 : Int32))] [(.ref u2), (.int (1 : Int32))]))
    obtain ⟨cq47, kq47, q47a, q47b, q47c⟩ := isOf hZ e46 (E_u2.ext O35)
    obtain ⟨_, _, ⟨T47, L47, k47, n47⟩, -, X47, ⟨Lc47, hQ47, l47, y47, z47⟩, st47⟩ := X46.virtualBack hx (y := (⟨"com/example/linkwright/linkwright/program/Option", "placeholder", "()Ljava/lang/String;"⟩ : MethodName)) (z := (⟨"com/example/linkwright/linkwright/program/Option", "placeholder", "()Ljava/lang/String;"⟩ : MethodName)) hown (mvT hZ (hw _ (List.mem_of_getElem? (i := 42) rfl))) (mvT hZ (hw _ (List.mem_of_getElem? (i := 43) rfl))) (notFace_of_selects (args := #[]) (mvT hZ (hw _ (List.mem_of_getElem? (i := 45) rfl)))) (mvT hZ (hw _ (List.mem_of_getElem? (i := 45) rfl))) (mvT hZ (hw _ (List.mem_of_getElem? (i := 44) rfl))) (by decide) (own_back (W := 1) (own_phR l Z a0 hw [] u2 x0 h35 n0 O35 P_u2) hZ (hw _ (List.mem_of_getElem? (i := 46) rfl)) (hw _ (List.mem_of_getElem? (i := 3) rfl)) (by decide) (by decide)) q47a q47c (g := (mkF m 142 #[.val (.int p1), .val (.ref b5), .val (.ref u2), .val (.int (1 : Int32)), .val (.int (1 : Int32))] [(.ref u2), (.int (1 : Int32))])) rfl (by rw [hml]; rfl) (Steps.refl _) (argsL := []) (rest := [(.int (1 : Int32))]) (lenOf own_pd1 rfl) rfl (by show 2 * 0 + _ ≤ _; exact Nat.le_of_eq rfl) (hb hby at_142) (fun _ _ => ⟨rfl, e46, (by decide : 1 + 0 ≤ _), (by decide : 15 + 0 ≤ _)⟩)
    dsimp only [Pt.U, Pt.locs, Pt.cells, Pt.slots] at X47 l47 y47 z47 st47 hQ47
    subst l47 y47 z47
    obtain ⟨rfl, N47q, e47⟩ := hQ47
    have N47 := Fr.app N45 N47q
    refine own_by (fun _ k => st47.trans k) ?_
    show own_End p e below _ (T47.setTop (mkF m 145 #[.val (.int p1), .val (.ref b5), .val (.ref u2), .val (.int (1 : Int32)), .val (.int (1 : Int32))] [(.ref x0), (.int (1 : Int32))]))
    refine own_by (fun _ k => XS.ifnullNo X47.here hx rfl (hb hby at_145) rfl k) ?_
    show own_End p e below _ (T47.setTop (mkF m 148 #[.val (.int p1), .val (.ref b5), .val (.ref u2), .val (.int (1 : Int32)), .val (.int (1 : Int32))] [(.int (1 : Int32))]))
    refine own_by (fun _ k => XS.iconst X47.here hx rfl (hb hby at_148) k) ?_
    show own_End p e below _ (T47.setTop (mkF m 149 #[.val (.int p1), .val (.ref b5), .val (.ref u2), .val (.int (1 : Int32)), .val (.int (1 : Int32))] [(.int (1 : Int32)), (.int (1 : Int32))]))
    refine own_by (fun _ k => XS.goto X47.here hx rfl (pc0 := 149) (pc' := 153) rfl (hb hby at_149) (by decide) (by decide) k) ?_
    show own_End p e below _ (T47.setTop (mkF m 153 #[.val (.int p1), .val (.ref b5), .val (.ref u2), .val (.int (1 : Int32)), .val (.int (1 : Int32))] [(.int (1 : Int32)), (.int (1 : Int32))]))
    refine own_by (fun _ k => XS.icmpNo X47.here hx rfl (hb hby at_153) rfl (teq (by decide)).2 k) ?_
    show own_End p e below _ (T47.setTop (mkF m 156 #[.val (.int p1), .val (.ref b5), .val (.ref u2), .val (.int (1 : Int32)), .val (.int (1 : Int32))] []))
    refine own_by (fun _ k => XS.iconst X47.here hx rfl (hb hby at_156) k) ?_
    show own_End p e below _ (T47.setTop (mkF m 157 #[.val (.int p1), .val (.ref b5), .val (.ref u2), .val (.int (1 : Int32)), .val (.int (1 : Int32))] [(.int (1 : Int32))]))
    refine own_by (fun _ k => XS.goto X47.here hx rfl (pc0 := 157) (pc' := 161) rfl (hb hby at_157) (by decide) (by decide) k) ?_
    show own_End p e below _ (T47.setTop (mkF m 161 #[.val (.int p1), .val (.ref b5), .val (.ref u2), .val (.int (1 : Int32)), .val (.int (1 : Int32))] [(.int (1 : Int32))]))
    obtain ⟨fs, hr, hrun, hended, hW, hsame⟩ := X47.leave (v := (some (.int (1 : Int32)))) (fun h => by rw [Bd.returns] at h; cases h)
    refine ⟨_, _, retN X47 hx (t := .boolean) Bd.returns (by simp) (hb hby at_161) hr, hrun, hended, _, _, rfl, ?_, ⟨_, rfl⟩, hW, hsame.mono (by decide) (by decide)⟩
    exact ⟨rfl, N47⟩
  · -- case 3
    rw [hq]
    show own_End p e below _ (T35.setTop (mkF m 113 #[.val (.int p1), .val (.ref b5), .unset, .unset, .unset] [(.int (3 : Int32)), (.ref b5)]))
    obtain ⟨cl48, Ar48, -, S48, M48, Hs48, -⟩ := V35_b5
    have hin48 : ¬ ((3 : Int32) < 0 ∨ cl48.slots.size ≤ ((3 : Int32)).toNatClampNeg) := inb_of S48 ⟨by decide, by decide⟩
    refine own_by (fun _ k => X35.aaload hx (j := (3 : Int32)) (v := (.ref u3)) (by rw [e35]; exact Ar48.1) (State.isArrayOf_alike hZ.alike Ar48.2.1) rfl Ar48.2.2 hin48 (Has.at Hs48 hin48 rfl) (g := (mkF m 113 #[.val (.int p1), .val (.ref b5), .unset, .unset, .unset] [(.int (3 : Int32)), (.ref b5)])) rfl rfl (hb hby at_113) _ k) ?_
    show own_End p e below _ (T35.setTop (mkF m 114 #[.val (.int p1), .val (.ref b5), .unset, .unset, .unset] [(.ref u3)]))
    refine own_by (fun _ k => XS.astoreN X35.here hx rfl (hb hby at_114) rfl rfl (l' := #[.val (.int p1), .val (.ref b5), .val (.ref u3), .unset, .unset]) rfl k) ?_
    show own_End p e below _ (T35.setTop (mkF m 115 #[.val (.int p1), .val (.ref b5), .val (.ref u3), .unset, .unset] []))
    refine own_by (fun _ k => XS.aloadN X35.here hx rfl (hb hby at_115) rfl rfl k) ?_
    show own_End p e below _ (T35.setTop (mkF m 116 #[.val (.int p1), .val (.ref b5), .val (.ref u3), .unset, .unset] [(.ref u3)]))
    obtain ⟨cq49, kq49, q49a, q49b, q49c⟩ := isOf hZ e35 (E_u3.ext O35)
    obtain ⟨_, _, ⟨T49, L49, k49, n49⟩, -, X49, ⟨Lc49, hQ49, l49, y49, z49⟩, st49⟩ := X35.virtualBack hx (y := (⟨"com/example/linkwright/linkwright/program/Option", "takesValue", "()Z"⟩ : MethodName)) (z := (⟨"com/example/linkwright/linkwright/program/Option", "takesValue", "()Z"⟩ : MethodName)) hown (mvT hZ (hw _ (List.mem_of_getElem? (i := 35) rfl))) (mvT hZ (hw _ (List.mem_of_getElem? (i := 36) rfl))) (notFace_of_selects (args := #[]) (mvT hZ (hw _ (List.mem_of_getElem? (i := 38) rfl)))) (mvT hZ (hw _ (List.mem_of_getElem? (i := 38) rfl))) (mvT hZ (hw _ (List.mem_of_getElem? (i := 37) rfl))) (by decide) (own_back (W := 0) (own_tkR l Z a0 hw [] u3 x0 h35 n0 O35 P_u3) hZ (hw _ (List.mem_of_getElem? (i := 39) rfl)) (hw _ (List.mem_of_getElem? (i := 3) rfl)) (by decide) (by decide)) q49a q49c (g := (mkF m 116 #[.val (.int p1), .val (.ref b5), .val (.ref u3), .unset, .unset] [(.ref u3)])) rfl (by rw [hml]; rfl) (Steps.refl _) (argsL := []) (rest := []) (lenOf own_pd0 rfl) rfl (by show 2 * 0 + _ ≤ _; exact Nat.le_of_eq rfl) (hb hby at_116) (fun _ _ => ⟨rfl, e35, (by decide : 1 + 0 ≤ _), (by decide : 15 + 0 ≤ _)⟩)
    dsimp only [Pt.U, Pt.locs, Pt.cells, Pt.slots] at X49 l49 y49 z49 st49 hQ49
    subst l49 y49 z49
    obtain ⟨rfl, N49q, e49⟩ := hQ49
    have N49 := Fr.app N35 N49q
    refine own_by (fun _ k => st49.trans k) ?_
    show own_End p e below _ (T49.setTop (mkF m 119 #[.val (.int p1), .val (.ref b5), .val (.ref u3), .unset, .unset] [(.int (1 : Int32))]))
    refine own_by (fun _ k => XS.istoreN X49.here hx rfl (hb hby at_119) rfl (l' := #[.val (.int p1), .val (.ref b5), .val (.ref u3), .val (.int (1 : Int32)), .unset]) rfl k) ?_
    show own_End p e below _ (T49.setTop (mkF m 120 #[.val (.int p1), .val (.ref b5), .val (.ref u3), .val (.int (1 : Int32)), .unset] []))
    refine own_by (fun _ k => XS.aloadN X49.here hx rfl (hb hby at_120) rfl rfl k) ?_
    show own_End p e below _ (T49.setTop (mkF m 121 #[.val (.int p1), .val (.ref b5), .val (.ref u3), .val (.int (1 : Int32)), .unset] [(.ref u3)]))
    obtain ⟨T50, X50, e50, st50⟩ := getS2 X49 hx hZ hown (host := "") (Or.inl (hw _ (List.mem_of_getElem? (i := 16) rfl))) Via.refl e49 (S_u6.ext O35) (g := (mkF m 121 #[.val (.int p1), .val (.ref b5), .val (.ref u3), .val (.int (1 : Int32)), .unset] [(.ref u3)])) rfl (hb hby at_121)
    refine own_by st50 ?_
    show own_End p e below _ (T50.setTop (mkF m 124 #[.val (.int p1), .val (.ref b5), .val (.ref u3), .val (.int (1 : Int32)), .unset] [(.ref u6), (.ref u3)]))
    refine own_by (fun _ k => Jvm.RoadKit.acmp (g := (mkF m 124 #[.val (.int p1), .val (.ref b5), .val (.ref u3), .val (.int (1 : Int32)), .unset] [(.ref u6), (.ref u3)])) X50 hx rfl rfl rfl (pc0 := 124) (pc' := 127) (same := false) rfl (hb hby at_124) rfl (decide_eq_false fun q => (F_u3.ne F_u6 (by decide)) (Value.ref.inj q)) (by decide) (by decide) k) ?_
    show own_End p e below _ (T50.setTop (mkF m 127 #[.val (.int p1), .val (.ref b5), .val (.ref u3), .val (.int (1 : Int32)), .unset] []))
    refine own_by (fun _ k => XS.iconst X50.here hx rfl (hb hby at_127) k) ?_
    show own_End p e below _ (T50.setTop (mkF m 128 #[.val (.int p1), .val (.ref b5), .val (.ref u3), .val (.int (1 : Int32)), .unset] [(.int (1 : Int32))]))
    refine own_by (fun _ k => XS.goto X50.here hx rfl (pc0 := 128) (pc' := 132) rfl (hb hby at_128) (by decide) (by decide) k) ?_
    show own_End p e below _ (T50.setTop (mkF m 132 #[.val (.int p1), .val (.ref b5), .val (.ref u3), .val (.int (1 : Int32)), .unset] [(.int (1 : Int32))]))
    refine own_by (fun _ k => XS.istore X50.here hx rfl (hb hby at_132) rfl (l' := #[.val (.int p1), .val (.ref b5), .val (.ref u3), .val (.int (1 : Int32)), .val (.int (1 : Int32))]) rfl k) ?_
    show own_End p e below _ (T50.setTop (mkF m 134 #[.val (.int p1), .val (.ref b5), .val (.ref u3), .val (.int (1 : Int32)), .val (.int (1 : Int32))] []))
    refine own_by (fun _ k => XS.iloadN X50.here hx rfl (hb hby at_134) rfl k) ?_
    show own_End p e below _ (T50.setTop (mkF m 135 #[.val (.int p1), .val (.ref b5), .val (.ref u3), .val (.int (1 : Int32)), .val (.int (1 : Int32))] [(.int (1 : Int32))]))
    refine own_by (fun _ k => XS.iload X50.here hx rfl (hb hby at_135) rfl k) ?_
    show own_End p e below _ (T50.setTop (mkF m 137 #[.val (.int p1), .val (.ref b5), .val (.ref u3), .val (.int (1 : Int32)), .val (.int (1 : Int32))] [(.int (1 : Int32)), (.int (1 : Int32))]))
    refine own_by (fun _ k => XS.icmpNo X50.here hx rfl (hb hby at_137) rfl (teq (by decide)).2 k) ?_
    show own_End p e below _ (T50.setTop (mkF m 140 #[.val (.int p1), .val (.ref b5), .val (.ref u3), .val (.int (1 : Int32)), .val (.int (1 : Int32))] []))
    refine own_by (fun _ k => XS.iloadN X50.here hx rfl (hb hby at_140) rfl k) ?_
    show own_End p e below _ (T50.setTop (mkF m 141 #[.val (.int p1), .val (.ref b5), .val (.ref u3), .val (.int (1 : Int32)), .val (.int (1 : Int32))] [(.int (1 : Int32))]))
    refine own_by (fun _ k => XS.aloadN X50.here hx rfl (hb hby at_141) rfl rfl k) ?_
    show own_End p e below _ (T50.setTop (mkF m 142 #[.val (.int p1), .val (.ref b5), .val (.ref u3), .val (.int (1 : Int32)), .val (.int (1 : Int32))] [(.ref u3), (.int (1 : Int32))]))
    obtain ⟨cq51, kq51, q51a, q51b, q51c⟩ := isOf hZ e50 (E_u3.ext O35)
    obtain ⟨_, _, ⟨T51, L51, k51, n51⟩, -, X51, ⟨Lc51, hQ51, l51, y51, z51⟩, st51⟩ := X50.virtualBack hx (y := (⟨"com/example/linkwright/linkwright/program/Option", "placeholder", "()Ljava/lang/String;"⟩ : MethodName)) (z := (⟨"com/example/linkwright/linkwright/program/Option", "placeholder", "()Ljava/lang/String;"⟩ : MethodName)) hown (mvT hZ (hw _ (List.mem_of_getElem? (i := 42) rfl))) (mvT hZ (hw _ (List.mem_of_getElem? (i := 43) rfl))) (notFace_of_selects (args := #[]) (mvT hZ (hw _ (List.mem_of_getElem? (i := 45) rfl)))) (mvT hZ (hw _ (List.mem_of_getElem? (i := 45) rfl))) (mvT hZ (hw _ (List.mem_of_getElem? (i := 44) rfl))) (by decide) (own_back (W := 1) (own_phR l Z a0 hw [] u3 x0 h35 n0 O35 P_u3) hZ (hw _ (List.mem_of_getElem? (i := 46) rfl)) (hw _ (List.mem_of_getElem? (i := 3) rfl)) (by decide) (by decide)) q51a q51c (g := (mkF m 142 #[.val (.int p1), .val (.ref b5), .val (.ref u3), .val (.int (1 : Int32)), .val (.int (1 : Int32))] [(.ref u3), (.int (1 : Int32))])) rfl (by rw [hml]; rfl) (Steps.refl _) (argsL := []) (rest := [(.int (1 : Int32))]) (lenOf own_pd1 rfl) rfl (by show 2 * 0 + _ ≤ _; exact Nat.le_of_eq rfl) (hb hby at_142) (fun _ _ => ⟨rfl, e50, (by decide : 1 + 0 ≤ _), (by decide : 15 + 0 ≤ _)⟩)
    dsimp only [Pt.U, Pt.locs, Pt.cells, Pt.slots] at X51 l51 y51 z51 st51 hQ51
    subst l51 y51 z51
    obtain ⟨rfl, N51q, e51⟩ := hQ51
    have N51 := Fr.app N49 N51q
    refine own_by (fun _ k => st51.trans k) ?_
    show own_End p e below _ (T51.setTop (mkF m 145 #[.val (.int p1), .val (.ref b5), .val (.ref u3), .val (.int (1 : Int32)), .val (.int (1 : Int32))] [(.ref x0), (.int (1 : Int32))]))
    refine own_by (fun _ k => XS.ifnullNo X51.here hx rfl (hb hby at_145) rfl k) ?_
    show own_End p e below _ (T51.setTop (mkF m 148 #[.val (.int p1), .val (.ref b5), .val (.ref u3), .val (.int (1 : Int32)), .val (.int (1 : Int32))] [(.int (1 : Int32))]))
    refine own_by (fun _ k => XS.iconst X51.here hx rfl (hb hby at_148) k) ?_
    show own_End p e below _ (T51.setTop (mkF m 149 #[.val (.int p1), .val (.ref b5), .val (.ref u3), .val (.int (1 : Int32)), .val (.int (1 : Int32))] [(.int (1 : Int32)), (.int (1 : Int32))]))
    refine own_by (fun _ k => XS.goto X51.here hx rfl (pc0 := 149) (pc' := 153) rfl (hb hby at_149) (by decide) (by decide) k) ?_
    show own_End p e below _ (T51.setTop (mkF m 153 #[.val (.int p1), .val (.ref b5), .val (.ref u3), .val (.int (1 : Int32)), .val (.int (1 : Int32))] [(.int (1 : Int32)), (.int (1 : Int32))]))
    refine own_by (fun _ k => XS.icmpNo X51.here hx rfl (hb hby at_153) rfl (teq (by decide)).2 k) ?_
    show own_End p e below _ (T51.setTop (mkF m 156 #[.val (.int p1), .val (.ref b5), .val (.ref u3), .val (.int (1 : Int32)), .val (.int (1 : Int32))] []))
    refine own_by (fun _ k => XS.iconst X51.here hx rfl (hb hby at_156) k) ?_
    show own_End p e below _ (T51.setTop (mkF m 157 #[.val (.int p1), .val (.ref b5), .val (.ref u3), .val (.int (1 : Int32)), .val (.int (1 : Int32))] [(.int (1 : Int32))]))
    refine own_by (fun _ k => XS.goto X51.here hx rfl (pc0 := 157) (pc' := 161) rfl (hb hby at_157) (by decide) (by decide) k) ?_
    show own_End p e below _ (T51.setTop (mkF m 161 #[.val (.int p1), .val (.ref b5), .val (.ref u3), .val (.int (1 : Int32)), .val (.int (1 : Int32))] [(.int (1 : Int32))]))
    obtain ⟨fs, hr, hrun, hended, hW, hsame⟩ := X51.leave (v := (some (.int (1 : Int32)))) (fun h => by rw [Bd.returns] at h; cases h)
    refine ⟨_, _, retN X51 hx (t := .boolean) Bd.returns (by simp) (hb hby at_161) hr, hrun, hended, _, _, rfl, ?_, ⟨_, rfl⟩, hW, hsame.mono (by decide) (by decide)⟩
    exact ⟨rfl, N51⟩
  · -- case 4
    rw [hq]
    show own_End p e below _ (T35.setTop (mkF m 113 #[.val (.int p1), .val (.ref b5), .unset, .unset, .unset] [(.int (4 : Int32)), (.ref b5)]))
    obtain ⟨cl52, Ar52, -, S52, M52, Hs52, -⟩ := V35_b5
    have hin52 : ¬ ((4 : Int32) < 0 ∨ cl52.slots.size ≤ ((4 : Int32)).toNatClampNeg) := inb_of S52 ⟨by decide, by decide⟩
    refine own_by (fun _ k => X35.aaload hx (j := (4 : Int32)) (v := (.ref u4)) (by rw [e35]; exact Ar52.1) (State.isArrayOf_alike hZ.alike Ar52.2.1) rfl Ar52.2.2 hin52 (Has.at Hs52 hin52 rfl) (g := (mkF m 113 #[.val (.int p1), .val (.ref b5), .unset, .unset, .unset] [(.int (4 : Int32)), (.ref b5)])) rfl rfl (hb hby at_113) _ k) ?_
    show own_End p e below _ (T35.setTop (mkF m 114 #[.val (.int p1), .val (.ref b5), .unset, .unset, .unset] [(.ref u4)]))
    refine own_by (fun _ k => XS.astoreN X35.here hx rfl (hb hby at_114) rfl rfl (l' := #[.val (.int p1), .val (.ref b5), .val (.ref u4), .unset, .unset]) rfl k) ?_
    show own_End p e below _ (T35.setTop (mkF m 115 #[.val (.int p1), .val (.ref b5), .val (.ref u4), .unset, .unset] []))
    refine own_by (fun _ k => XS.aloadN X35.here hx rfl (hb hby at_115) rfl rfl k) ?_
    show own_End p e below _ (T35.setTop (mkF m 116 #[.val (.int p1), .val (.ref b5), .val (.ref u4), .unset, .unset] [(.ref u4)]))
    obtain ⟨cq53, kq53, q53a, q53b, q53c⟩ := isOf hZ e35 (E_u4.ext O35)
    obtain ⟨_, _, ⟨T53, L53, k53, n53⟩, -, X53, ⟨Lc53, hQ53, l53, y53, z53⟩, st53⟩ := X35.virtualBack hx (y := (⟨"com/example/linkwright/linkwright/program/Option", "takesValue", "()Z"⟩ : MethodName)) (z := (⟨"com/example/linkwright/linkwright/program/Option", "takesValue", "()Z"⟩ : MethodName)) hown (mvT hZ (hw _ (List.mem_of_getElem? (i := 35) rfl))) (mvT hZ (hw _ (List.mem_of_getElem? (i := 36) rfl))) (notFace_of_selects (args := #[]) (mvT hZ (hw _ (List.mem_of_getElem? (i := 38) rfl)))) (mvT hZ (hw _ (List.mem_of_getElem? (i := 38) rfl))) (mvT hZ (hw _ (List.mem_of_getElem? (i := 37) rfl))) (by decide) (own_back (W := 0) (own_tkR l Z a0 hw [] u4 x4 h35 n0 O35 P_u4) hZ (hw _ (List.mem_of_getElem? (i := 39) rfl)) (hw _ (List.mem_of_getElem? (i := 3) rfl)) (by decide) (by decide)) q53a q53c (g := (mkF m 116 #[.val (.int p1), .val (.ref b5), .val (.ref u4), .unset, .unset] [(.ref u4)])) rfl (by rw [hml]; rfl) (Steps.refl _) (argsL := []) (rest := []) (lenOf own_pd0 rfl) rfl (by show 2 * 0 + _ ≤ _; exact Nat.le_of_eq rfl) (hb hby at_116) (fun _ _ => ⟨rfl, e35, (by decide : 1 + 0 ≤ _), (by decide : 15 + 0 ≤ _)⟩)
    dsimp only [Pt.U, Pt.locs, Pt.cells, Pt.slots] at X53 l53 y53 z53 st53 hQ53
    subst l53 y53 z53
    obtain ⟨rfl, N53q, e53⟩ := hQ53
    have N53 := Fr.app N35 N53q
    refine own_by (fun _ k => st53.trans k) ?_
    show own_End p e below _ (T53.setTop (mkF m 119 #[.val (.int p1), .val (.ref b5), .val (.ref u4), .unset, .unset] [(.int (1 : Int32))]))
    refine own_by (fun _ k => XS.istoreN X53.here hx rfl (hb hby at_119) rfl (l' := #[.val (.int p1), .val (.ref b5), .val (.ref u4), .val (.int (1 : Int32)), .unset]) rfl k) ?_
    show own_End p e below _ (T53.setTop (mkF m 120 #[.val (.int p1), .val (.ref b5), .val (.ref u4), .val (.int (1 : Int32)), .unset] []))
    refine own_by (fun _ k => XS.aloadN X53.here hx rfl (hb hby at_120) rfl rfl k) ?_
    show own_End p e below _ (T53.setTop (mkF m 121 #[.val (.int p1), .val (.ref b5), .val (.ref u4), .val (.int (1 : Int32)), .unset] [(.ref u4)]))
    obtain ⟨T54, X54, e54, st54⟩ := getS2 X53 hx hZ hown (host := "") (Or.inl (hw _ (List.mem_of_getElem? (i := 16) rfl))) Via.refl e53 (S_u6.ext O35) (g := (mkF m 121 #[.val (.int p1), .val (.ref b5), .val (.ref u4), .val (.int (1 : Int32)), .unset] [(.ref u4)])) rfl (hb hby at_121)
    refine own_by st54 ?_
    show own_End p e below _ (T54.setTop (mkF m 124 #[.val (.int p1), .val (.ref b5), .val (.ref u4), .val (.int (1 : Int32)), .unset] [(.ref u6), (.ref u4)]))
    refine own_by (fun _ k => Jvm.RoadKit.acmp (g := (mkF m 124 #[.val (.int p1), .val (.ref b5), .val (.ref u4), .val (.int (1 : Int32)), .unset] [(.ref u6), (.ref u4)])) X54 hx rfl rfl rfl (pc0 := 124) (pc' := 127) (same := false) rfl (hb hby at_124) rfl (decide_eq_false fun q => (F_u4.ne F_u6 (by decide)) (Value.ref.inj q)) (by decide) (by decide) k) ?_
    show own_End p e below _ (T54.setTop (mkF m 127 #[.val (.int p1), .val (.ref b5), .val (.ref u4), .val (.int (1 : Int32)), .unset] []))
    refine own_by (fun _ k => XS.iconst X54.here hx rfl (hb hby at_127) k) ?_
    show own_End p e below _ (T54.setTop (mkF m 128 #[.val (.int p1), .val (.ref b5), .val (.ref u4), .val (.int (1 : Int32)), .unset] [(.int (1 : Int32))]))
    refine own_by (fun _ k => XS.goto X54.here hx rfl (pc0 := 128) (pc' := 132) rfl (hb hby at_128) (by decide) (by decide) k) ?_
    show own_End p e below _ (T54.setTop (mkF m 132 #[.val (.int p1), .val (.ref b5), .val (.ref u4), .val (.int (1 : Int32)), .unset] [(.int (1 : Int32))]))
    refine own_by (fun _ k => XS.istore X54.here hx rfl (hb hby at_132) rfl (l' := #[.val (.int p1), .val (.ref b5), .val (.ref u4), .val (.int (1 : Int32)), .val (.int (1 : Int32))]) rfl k) ?_
    show own_End p e below _ (T54.setTop (mkF m 134 #[.val (.int p1), .val (.ref b5), .val (.ref u4), .val (.int (1 : Int32)), .val (.int (1 : Int32))] []))
    refine own_by (fun _ k => XS.iloadN X54.here hx rfl (hb hby at_134) rfl k) ?_
    show own_End p e below _ (T54.setTop (mkF m 135 #[.val (.int p1), .val (.ref b5), .val (.ref u4), .val (.int (1 : Int32)), .val (.int (1 : Int32))] [(.int (1 : Int32))]))
    refine own_by (fun _ k => XS.iload X54.here hx rfl (hb hby at_135) rfl k) ?_
    show own_End p e below _ (T54.setTop (mkF m 137 #[.val (.int p1), .val (.ref b5), .val (.ref u4), .val (.int (1 : Int32)), .val (.int (1 : Int32))] [(.int (1 : Int32)), (.int (1 : Int32))]))
    refine own_by (fun _ k => XS.icmpNo X54.here hx rfl (hb hby at_137) rfl (teq (by decide)).2 k) ?_
    show own_End p e below _ (T54.setTop (mkF m 140 #[.val (.int p1), .val (.ref b5), .val (.ref u4), .val (.int (1 : Int32)), .val (.int (1 : Int32))] []))
    refine own_by (fun _ k => XS.iloadN X54.here hx rfl (hb hby at_140) rfl k) ?_
    show own_End p e below _ (T54.setTop (mkF m 141 #[.val (.int p1), .val (.ref b5), .val (.ref u4), .val (.int (1 : Int32)), .val (.int (1 : Int32))] [(.int (1 : Int32))]))
    refine own_by (fun _ k => XS.aloadN X54.here hx rfl (hb hby at_141) rfl rfl k) ?_
    show own_End p e below _ (T54.setTop (mkF m 142 #[.val (.int p1), .val (.ref b5), .val (.ref u4), .val (.int (1 : Int32)), .val (.int (1 : Int32))] [(.ref u4), (.int (1 : Int32))]))
    obtain ⟨cq55, kq55, q55a, q55b, q55c⟩ := isOf hZ e54 (E_u4.ext O35)
    obtain ⟨_, _, ⟨T55, L55, k55, n55⟩, -, X55, ⟨Lc55, hQ55, l55, y55, z55⟩, st55⟩ := X54.virtualBack hx (y := (⟨"com/example/linkwright/linkwright/program/Option", "placeholder", "()Ljava/lang/String;"⟩ : MethodName)) (z := (⟨"com/example/linkwright/linkwright/program/Option", "placeholder", "()Ljava/lang/String;"⟩ : MethodName)) hown (mvT hZ (hw _ (List.mem_of_getElem? (i := 42) rfl))) (mvT hZ (hw _ (List.mem_of_getElem? (i := 43) rfl))) (notFace_of_selects (args := #[]) (mvT hZ (hw _ (List.mem_of_getElem? (i := 45) rfl)))) (mvT hZ (hw _ (List.mem_of_getElem? (i := 45) rfl))) (mvT hZ (hw _ (List.mem_of_getElem? (i := 44) rfl))) (by decide) (own_back (W := 1) (own_phR l Z a0 hw [] u4 x4 h35 n0 O35 P_u4) hZ (hw _ (List.mem_of_getElem? (i := 46) rfl)) (hw _ (List.mem_of_getElem? (i := 3) rfl)) (by decide) (by decide)) q55a q55c (g := (mkF m 142 #[.val (.int p1), .val (.ref b5), .val (.ref u4), .val (.int (1 : Int32)), .val (.int (1 : Int32))] [(.ref u4), (.int (1 : Int32))])) rfl (by rw [hml]; rfl) (Steps.refl _) (argsL := []) (rest := [(.int (1 : Int32))]) (lenOf own_pd1 rfl) rfl (by show 2 * 0 + _ ≤ _; exact Nat.le_of_eq rfl) (hb hby at_142) (fun _ _ => ⟨rfl, e54, (by decide : 1 + 0 ≤ _), (by decide : 15 + 0 ≤ _)⟩)
    dsimp only [Pt.U, Pt.locs, Pt.cells, Pt.slots] at X55 l55 y55 z55 st55 hQ55
    subst l55 y55 z55
    obtain ⟨rfl, N55q, e55⟩ := hQ55
    have N55 := Fr.app N53 N55q
    refine own_by (fun _ k => st55.trans k) ?_
    show own_End p e below _ (T55.setTop (mkF m 145 #[.val (.int p1), .val (.ref b5), .val (.ref u4), .val (.int (1 : Int32)), .val (.int (1 : Int32))] [(.ref x4), (.int (1 : Int32))]))
    refine own_by (fun _ k => XS.ifnullNo X55.here hx rfl (hb hby at_145) rfl k) ?_
    show own_End p e below _ (T55.setTop (mkF m 148 #[.val (.int p1), .val (.ref b5), .val (.ref u4), .val (.int (1 : Int32)), .val (.int (1 : Int32))] [(.int (1 : Int32))]))
    refine own_by (fun _ k => XS.iconst X55.here hx rfl (hb hby at_148) k) ?_
    show own_End p e below _ (T55.setTop (mkF m 149 #[.val (.int p1), .val (.ref b5), .val (.ref u4), .val (.int (1 : Int32)), .val (.int (1 : Int32))] [(.int (1 : Int32)), (.int (1 : Int32))]))
    refine own_by (fun _ k => XS.goto X55.here hx rfl (pc0 := 149) (pc' := 153) rfl (hb hby at_149) (by decide) (by decide) k) ?_
    show own_End p e below _ (T55.setTop (mkF m 153 #[.val (.int p1), .val (.ref b5), .val (.ref u4), .val (.int (1 : Int32)), .val (.int (1 : Int32))] [(.int (1 : Int32)), (.int (1 : Int32))]))
    refine own_by (fun _ k => XS.icmpNo X55.here hx rfl (hb hby at_153) rfl (teq (by decide)).2 k) ?_
    show own_End p e below _ (T55.setTop (mkF m 156 #[.val (.int p1), .val (.ref b5), .val (.ref u4), .val (.int (1 : Int32)), .val (.int (1 : Int32))] []))
    refine own_by (fun _ k => XS.iconst X55.here hx rfl (hb hby at_156) k) ?_
    show own_End p e below _ (T55.setTop (mkF m 157 #[.val (.int p1), .val (.ref b5), .val (.ref u4), .val (.int (1 : Int32)), .val (.int (1 : Int32))] [(.int (1 : Int32))]))
    refine own_by (fun _ k => XS.goto X55.here hx rfl (pc0 := 157) (pc' := 161) rfl (hb hby at_157) (by decide) (by decide) k) ?_
    show own_End p e below _ (T55.setTop (mkF m 161 #[.val (.int p1), .val (.ref b5), .val (.ref u4), .val (.int (1 : Int32)), .val (.int (1 : Int32))] [(.int (1 : Int32))]))
    obtain ⟨fs, hr, hrun, hended, hW, hsame⟩ := X55.leave (v := (some (.int (1 : Int32)))) (fun h => by rw [Bd.returns] at h; cases h)
    refine ⟨_, _, retN X55 hx (t := .boolean) Bd.returns (by simp) (hb hby at_161) hr, hrun, hended, _, _, rfl, ?_, ⟨_, rfl⟩, hW, hsame.mono (by decide) (by decide)⟩
    exact ⟨rfl, N55⟩
  · -- case 5
    rw [hq]
    show own_End p e below _ (T35.setTop (mkF m 113 #[.val (.int p1), .val (.ref b5), .unset, .unset, .unset] [(.int (5 : Int32)), (.ref b5)]))
    obtain ⟨cl56, Ar56, -, S56, M56, Hs56, -⟩ := V35_b5
    have hin56 : ¬ ((5 : Int32) < 0 ∨ cl56.slots.size ≤ ((5 : Int32)).toNatClampNeg) := inb_of S56 ⟨by decide, by decide⟩
    refine own_by (fun _ k => X35.aaload hx (j := (5 : Int32)) (v := (.ref u5)) (by rw [e35]; exact Ar56.1) (State.isArrayOf_alike hZ.alike Ar56.2.1) rfl Ar56.2.2 hin56 (Has.at Hs56 hin56 rfl) (g := (mkF m 113 #[.val (.int p1), .val (.ref b5), .unset, .unset, .unset] [(.int (5 : Int32)), (.ref b5)])) rfl rfl (hb hby at_113) _ k) ?_
    show own_End p e below _ (T35.setTop (mkF m 114 #[.val (.int p1), .val (.ref b5), .unset, .unset, .unset] [(.ref u5)]))
    refine own_by (fun _ k => XS.astoreN X35.here hx rfl (hb hby at_114) rfl rfl (l' := #[.val (.int p1), .val (.ref b5), .val (.ref u5), .unset, .unset]) rfl k) ?_
    show own_End p e below _ (T35.setTop (mkF m 115 #[.val (.int p1), .val (.ref b5), .val (.ref u5), .unset, .unset] []))
    refine own_by (fun _ k => XS.aloadN X35.here hx rfl (hb hby at_115) rfl rfl k) ?_
    show own_End p e below _ (T35.setTop (mkF m 116 #[.val (.int p1), .val (.ref b5), .val (.ref u5), .unset, .unset] [(.ref u5)]))
    obtain ⟨cq57, kq57, q57a, q57b, q57c⟩ := isOf hZ e35 (E_u5.ext O35)
    obtain ⟨_, _, ⟨T57, L57, k57, n57⟩, -, X57, ⟨Lc57, hQ57, l57, y57, z57⟩, st57⟩ := X35.virtualBack hx (y := (⟨"com/example/linkwright/linkwright/program/Option", "takesValue", "()Z"⟩ : MethodName)) (z := (⟨"com/example/linkwright/linkwright/program/Option", "takesValue", "()Z"⟩ : MethodName)) hown (mvT hZ (hw _ (List.mem_of_getElem? (i := 35) rfl))) (mvT hZ (hw _ (List.mem_of_getElem? (i := 36) rfl))) (notFace_of_selects (args := #[]) (mvT hZ (hw _ (List.mem_of_getElem? (i := 38) rfl)))) (mvT hZ (hw _ (List.mem_of_getElem? (i := 38) rfl))) (mvT hZ (hw _ (List.mem_of_getElem? (i := 37) rfl))) (by decide) (own_back (W := 0) (own_tkR l Z a0 hw [] u5 x5 h35 n0 O35 P_u5) hZ (hw _ (List.mem_of_getElem? (i := 39) rfl)) (hw _ (List.mem_of_getElem? (i := 3) rfl)) (by decide) (by decide)) q57a q57c (g := (mkF m 116 #[.val (.int p1), .val (.ref b5), .val (.ref u5), .unset, .unset] [(.ref u5)])) rfl (by rw [hml]; rfl) (Steps.refl _) (argsL := []) (rest := []) (lenOf own_pd0 rfl) rfl (by show 2 * 0 + _ ≤ _; exact Nat.le_of_eq rfl) (hb hby at_116) (fun _ _ => ⟨rfl, e35, (by decide : 1 + 0 ≤ _), (by decide : 15 + 0 ≤ _)⟩)
    dsimp only [Pt.U, Pt.locs, Pt.cells, Pt.slots] at X57 l57 y57 z57 st57 hQ57
    subst l57 y57 z57
    obtain ⟨rfl, N57q, e57⟩ := hQ57
    have N57 := Fr.app N35 N57q
    refine own_by (fun _ k => st57.trans k) ?_
    show own_End p e below _ (T57.setTop (mkF m 119 #[.val (.int p1), .val (.ref b5), .val (.ref u5), .unset, .unset] [(.int (1 : Int32))]))
    refine own_by (fun _ k => XS.istoreN X57.here hx rfl (hb hby at_119) rfl (l' := #[.val (.int p1), .val (.ref b5), .val (.ref u5), .val (.int (1 : Int32)), .unset]) rfl k) ?_
    show own_End p e below _ (T57.setTop (mkF m 120 #[.val (.int p1), .val (.ref b5), .val (.ref u5), .val (.int (1 : Int32)), .unset] []))
    refine own_by (fun _ k => XS.aloadN X57.here hx rfl (hb hby at_120) rfl rfl k) ?_
    show own_End p e below _ (T57.setTop (mkF m 121 #[.val (.int p1), .val (.ref b5), .val (.ref u5), .val (.int (1 : Int32)), .unset] [(.ref u5)]))
    obtain ⟨T58, X58, e58, st58⟩ := getS2 X57 hx hZ hown (host := "") (Or.inl (hw _ (List.mem_of_getElem? (i := 16) rfl))) Via.refl e57 (S_u6.ext O35) (g := (mkF m 121 #[.val (.int p1), .val (.ref b5), .val (.ref u5), .val (.int (1 : Int32)), .unset] [(.ref u5)])) rfl (hb hby at_121)
    refine own_by st58 ?_
    show own_End p e below _ (T58.setTop (mkF m 124 #[.val (.int p1), .val (.ref b5), .val (.ref u5), .val (.int (1 : Int32)), .unset] [(.ref u6), (.ref u5)]))
    refine own_by (fun _ k => Jvm.RoadKit.acmp (g := (mkF m 124 #[.val (.int p1), .val (.ref b5), .val (.ref u5), .val (.int (1 : Int32)), .unset] [(.ref u6), (.ref u5)])) X58 hx rfl rfl rfl (pc0 := 124) (pc' := 127) (same := false) rfl (hb hby at_124) rfl (decide_eq_false fun q => (F_u5.ne F_u6 (by decide)) (Value.ref.inj q)) (by decide) (by decide) k) ?_
    show own_End p e below _ (T58.setTop (mkF m 127 #[.val (.int p1), .val (.ref b5), .val (.ref u5), .val (.int (1 : Int32)), .unset] []))
    refine own_by (fun _ k => XS.iconst X58.here hx rfl (hb hby at_127) k) ?_
    show own_End p e below _ (T58.setTop (mkF m 128 #[.val (.int p1), .val (.ref b5), .val (.ref u5), .val (.int (1 : Int32)), .unset] [(.int (1 : Int32))]))
    refine own_by (fun _ k => XS.goto X58.here hx rfl (pc0 := 128) (pc' := 132) rfl (hb hby at_128) (by decide) (by decide) k) ?_
    show own_End p e below _ (T58.setTop (mkF m 132 #[.val (.int p1), .val (.ref b5), .val (.ref u5), .val (.int (1 : Int32)), .unset] [(.int (1 : Int32))]))
    refine own_by (fun _ k => XS.istore X58.here hx rfl (hb hby at_132) rfl (l' := #[.val (.int p1), .val (.ref b5), .val (.ref u5), .val (.int (1 : Int32)), .val (.int (1 : Int32))]) rfl k) ?_
    show own_End p e below _ (T58.setTop (mkF m 134 #[.val (.int p1), .val (.ref b5), .val (.ref u5), .val (.int (1 : Int32)), .val (.int (1 : Int32))] []))
    refine own_by (fun _ k => XS.iloadN X58.here hx rfl (hb hby at_134) rfl k) ?_
    show own_End p e below _ (T58.setTop (mkF m 135 #[.val (.int p1), .val (.ref b5), .val (.ref u5), .val (.int (1 : Int32)), .val (.int (1 : Int32))] [(.int (1 : Int32))]))
    refine own_by (fun _ k => XS.iload X58.here hx rfl (hb hby at_135) rfl k) ?_
    show own_End p e below _ (T58.setTop (mkF m 137 #[.val (.int p1), .val (.ref b5), .val (.ref u5), .val (.int (1 : Int32)), .val (.int (1 : Int32))] [(.int (1 : Int32)), (.int (1 : Int32))]))
    refine own_by (fun _ k => XS.icmpNo X58.here hx rfl (hb hby at_137) rfl (teq (by decide)).2 k) ?_
    show own_End p e below _ (T58.setTop (mkF m 140 #[.val (.int p1), .val (.ref b5), .val (.ref u5), .val (.int (1 : Int32)), .val (.int (1 : Int32))] []))
    refine own_by (fun _ k => XS.iloadN X58.here hx rfl (hb hby at_140) rfl k) ?_
    show own_End p e below _ (T58.setTop (mkF m 141 #[.val (.int p1), .val (.ref b5), .val (.ref u5), .val (.int (1 : Int32)), .val (.int (1 : Int32))] [(.int (1 : Int32))]))
    refine own_by (fun _ k => XS.aloadN X58.here hx rfl (hb hby at_141) rfl rfl k) ?_
    show own_End p e below _ (T58.setTop (mkF m 142 #[.val (.int p1), .val (.ref b5), .val (.ref u5), .val (.int (1 : Int32)), .val (.int (1 : Int32))] [(.ref u5), (.int (1 : Int32))]))
    obtain ⟨cq59, kq59, q59a, q59b, q59c⟩ := isOf hZ e58 (E_u5.ext O35)
    obtain ⟨_, _, ⟨T59, L59, k59, n59⟩, -, X59, ⟨Lc59, hQ59, l59, y59, z59⟩, st59⟩ := X58.virtualBack hx (y := (⟨"com/example/linkwright/linkwright/program/Option", "placeholder", "()Ljava/lang/String;"⟩ : MethodName)) (z := (⟨"com/example/linkwright/linkwright/program/Option", "placeholder", "()Ljava/lang/String;"⟩ : MethodName)) hown (mvT hZ (hw _ (List.mem_of_getElem? (i := 42) rfl))) (mvT hZ (hw _ (List.mem_of_getElem? (i := 43) rfl))) (notFace_of_selects (args := #[]) (mvT hZ (hw _ (List.mem_of_getElem? (i := 45) rfl)))) (mvT hZ (hw _ (List.mem_of_getElem? (i := 45) rfl))) (mvT hZ (hw _ (List.mem_of_getElem? (i := 44) rfl))) (by decide) (own_back (W := 1) (own_phR l Z a0 hw [] u5 x5 h35 n0 O35 P_u5) hZ (hw _ (List.mem_of_getElem? (i := 46) rfl)) (hw _ (List.mem_of_getElem? (i := 3) rfl)) (by decide) (by decide)) q59a q59c (g := (mkF m 142 #[.val (.int p1), .val (.ref b5), .val (.ref u5), .val (.int (1 : Int32)), .val (.int (1 : Int32))] [(.ref u5), (.int (1 : Int32))])) rfl (by rw [hml]; rfl) (Steps.refl _) (argsL := []) (rest := [(.int (1 : Int32))]) (lenOf own_pd1 rfl) rfl (by show 2 * 0 + _ ≤ _; exact Nat.le_of_eq rfl) (hb hby at_142) (fun _ _ => ⟨rfl, e58, (by decide : 1 + 0 ≤ _), (by decide : 15 + 0 ≤ _)⟩)
    dsimp only [Pt.U, Pt.locs, Pt.cells, Pt.slots] at X59 l59 y59 z59 st59 hQ59
    subst l59 y59 z59
    obtain ⟨rfl, N59q, e59⟩ := hQ59
    have N59 := Fr.app N57 N59q
    refine own_by (fun _ k => st59.trans k) ?_
    show own_End p e below _ (T59.setTop (mkF m 145 #[.val (.int p1), .val (.ref b5), .val (.ref u5), .val (.int (1 : Int32)), .val (.int (1 : Int32))] [(.ref x5), (.int (1 : Int32))]))
    refine own_by (fun _ k => XS.ifnullNo X59.here hx rfl (hb hby at_145) rfl k) ?_
    show own_End p e below _ (T59.setTop (mkF m 148 #[.val (.int p1), .val (.ref b5), .val (.ref u5), .val (.int (1 : Int32)), .val (.int (1 : Int32))] [(.int (1 : Int32))]))
    refine own_by (fun _ k => XS.iconst X59.here hx rfl (hb hby at_148) k) ?_
    show own_End p e below _ (T59.setTop (mkF m 149 #[.val (.int p1), .val (.ref b5), .val (.ref u5), .val (.int (1 : Int32)), .val (.int (1 : Int32))] [(.int (1 : Int32)), (.int (1 : Int32))]))
    refine own_by (fun _ k => XS.goto X59.here hx rfl (pc0 := 149) (pc' := 153) rfl (hb hby at_149) (by decide) (by decide) k) ?_
    show own_End p e below _ (T59.setTop (mkF m 153 #[.val (.int p1), .val (.ref b5), .val (.ref u5), .val (.int (1 : Int32)), .val (.int (1 : Int32))] [(.int (1 : Int32)), (.int (1 : Int32))]))
    refine own_by (fun _ k => XS.icmpNo X59.here hx rfl (hb hby at_153) rfl (teq (by decide)).2 k) ?_
    show own_End p e below _ (T59.setTop (mkF m 156 #[.val (.int p1), .val (.ref b5), .val (.ref u5), .val (.int (1 : Int32)), .val (.int (1 : Int32))] []))
    refine own_by (fun _ k => XS.iconst X59.here hx rfl (hb hby at_156) k) ?_
    show own_End p e below _ (T59.setTop (mkF m 157 #[.val (.int p1), .val (.ref b5), .val (.ref u5), .val (.int (1 : Int32)), .val (.int (1 : Int32))] [(.int (1 : Int32))]))
    refine own_by (fun _ k => XS.goto X59.here hx rfl (pc0 := 157) (pc' := 161) rfl (hb hby at_157) (by decide) (by decide) k) ?_
    show own_End p e below _ (T59.setTop (mkF m 161 #[.val (.int p1), .val (.ref b5), .val (.ref u5), .val (.int (1 : Int32)), .val (.int (1 : Int32))] [(.int (1 : Int32))]))
    obtain ⟨fs, hr, hrun, hended, hW, hsame⟩ := X59.leave (v := (some (.int (1 : Int32)))) (fun h => by rw [Bd.returns] at h; cases h)
    refine ⟨_, _, retN X59 hx (t := .boolean) Bd.returns (by simp) (hb hby at_161) hr, hrun, hended, _, _, rfl, ?_, ⟨_, rfl⟩, hW, hsame.mono (by decide) (by decide)⟩
    exact ⟨rfl, N59⟩
  · -- case 6
    rw [hq]
    show own_End p e below _ (T35.setTop (mkF m 113 #[.val (.int p1), .val (.ref b5), .unset, .unset, .unset] [(.int (6 : Int32)), (.ref b5)]))
    obtain ⟨cl60, Ar60, -, S60, M60, Hs60, -⟩ := V35_b5
    have hin60 : ¬ ((6 : Int32) < 0 ∨ cl60.slots.size ≤ ((6 : Int32)).toNatClampNeg) := inb_of S60 ⟨by decide, by decide⟩
    refine own_by (fun _ k => X35.aaload hx (j := (6 : Int32)) (v := (.ref u6)) (by rw [e35]; exact Ar60.1) (State.isArrayOf_alike hZ.alike Ar60.2.1) rfl Ar60.2.2 hin60 (Has.at Hs60 hin60 rfl) (g := (mkF m 113 #[.val (.int p1), .val (.ref b5), .unset, .unset, .unset] [(.int (6 : Int32)), (.ref b5)])) rfl rfl (hb hby at_113) _ k) ?_
    show own_End p e below _ (T35.setTop (mkF m 114 #[.val (.int p1), .val (.ref b5), .unset, .unset, .unset] [(.ref u6)]))
    refine own_by (fun _ k => XS.astoreN X35.here hx rfl (hb hby at_114) rfl rfl (l' := #[.val (.int p1), .val (.ref b5), .val (.ref u6), .unset, .unset]) rfl k) ?_
    show own_End p e below _ (T35.setTop (mkF m 115 #[.val (.int p1), .val (.ref b5), .val (.ref u6), .unset, .unset] []))
    refine own_by (fun _ k => XS.aloadN X35.here hx rfl (hb hby at_115) rfl rfl k) ?_
    show own_End p e below _ (T35.setTop (mkF m 116 #[.val (.int p1), .val (.ref b5), .val (.ref u6), .unset, .unset] [(.ref u6)]))
    obtain ⟨cq61, kq61, q61a, q61b, q61c⟩ := isOf hZ e35 (E_u6.ext O35)
    obtain ⟨_, _, ⟨T61, L61, k61, n61⟩, -, X61, ⟨Lc61, hQ61, l61, y61, z61⟩, st61⟩ := X35.virtualBack hx (y := (⟨"com/example/linkwright/linkwright/program/Option", "takesValue", "()Z"⟩ : MethodName)) (z := (⟨"com/example/linkwright/linkwright/program/Option", "takesValue", "()Z"⟩ : MethodName)) hown (mvT hZ (hw _ (List.mem_of_getElem? (i := 35) rfl))) (mvT hZ (hw _ (List.mem_of_getElem? (i := 36) rfl))) (notFace_of_selects (args := #[]) (mvT hZ (hw _ (List.mem_of_getElem? (i := 38) rfl)))) (mvT hZ (hw _ (List.mem_of_getElem? (i := 38) rfl))) (mvT hZ (hw _ (List.mem_of_getElem? (i := 37) rfl))) (by decide) (own_back (W := 0) (own_tkN l Z a0 hw [] u6  h35 n0 O35 P_u6) hZ (hw _ (List.mem_of_getElem? (i := 39) rfl)) (hw _ (List.mem_of_getElem? (i := 3) rfl)) (by decide) (by decide)) q61a q61c (g := (mkF m 116 #[.val (.int p1), .val (.ref b5), .val (.ref u6), .unset, .unset] [(.ref u6)])) rfl (by rw [hml]; rfl) (Steps.refl _) (argsL := []) (rest := []) (lenOf own_pd0 rfl) rfl (by show 2 * 0 + _ ≤ _; exact Nat.le_of_eq rfl) (hb hby at_116) (fun _ _ => ⟨rfl, e35, (by decide : 1 + 0 ≤ _), (by decide : 15 + 0 ≤ _)⟩)
    dsimp only [Pt.U, Pt.locs, Pt.cells, Pt.slots] at X61 l61 y61 z61 st61 hQ61
    subst l61 y61 z61
    obtain ⟨rfl, N61q, e61⟩ := hQ61
    have N61 := Fr.app N35 N61q
    refine own_by (fun _ k => st61.trans k) ?_
    show own_End p e below _ (T61.setTop (mkF m 119 #[.val (.int p1), .val (.ref b5), .val (.ref u6), .unset, .unset] [(.int (0 : Int32))]))
    refine own_by (fun _ k => XS.istoreN X61.here hx rfl (hb hby at_119) rfl (l' := #[.val (.int p1), .val (.ref b5), .val (.ref u6), .val (.int (0 : Int32)), .unset]) rfl k) ?_
    show own_End p e below _ (T61.setTop (mkF m 120 #[.val (.int p1), .val (.ref b5), .val (.ref u6), .val (.int (0 : Int32)), .unset] []))
    refine own_by (fun _ k => XS.aloadN X61.here hx rfl (hb hby at_120) rfl rfl k) ?_
    show own_End p e below _ (T61.setTop (mkF m 121 #[.val (.int p1), .val (.ref b5), .val (.ref u6), .val (.int (0 : Int32)), .unset] [(.ref u6)]))
    obtain ⟨T62, X62, e62, st62⟩ := getS2 X61 hx hZ hown (host := "") (Or.inl (hw _ (List.mem_of_getElem? (i := 16) rfl))) Via.refl e61 (S_u6.ext O35) (g := (mkF m 121 #[.val (.int p1), .val (.ref b5), .val (.ref u6), .val (.int (0 : Int32)), .unset] [(.ref u6)])) rfl (hb hby at_121)
    refine own_by st62 ?_
    show own_End p e below _ (T62.setTop (mkF m 124 #[.val (.int p1), .val (.ref b5), .val (.ref u6), .val (.int (0 : Int32)), .unset] [(.ref u6), (.ref u6)]))
    refine own_by (fun _ k => Jvm.RoadKit.acmp (g := (mkF m 124 #[.val (.int p1), .val (.ref b5), .val (.ref u6), .val (.int (0 : Int32)), .unset] [(.ref u6), (.ref u6)])) X62 hx rfl rfl rfl (pc0 := 124) (pc' := 131) (same := true) rfl (hb hby at_124) rfl (decide_eq_true rfl) (by decide) (by decide) k) ?_
    show own_End p e below _ (T62.setTop (mkF m 131 #[.val (.int p1), .val (.ref b5), .val (.ref u6), .val (.int (0 : Int32)), .unset] []))
    refine own_by (fun _ k => XS.iconst X62.here hx rfl (hb hby at_131) k) ?_
    show own_End p e below _ (T62.setTop (mkF m 132 #[.val (.int p1), .val (.ref b5), .val (.ref u6), .val (.int (0 : Int32)), .unset] [(.int (0 : Int32))]))
    refine own_by (fun _ k => XS.istore X62.here hx rfl (hb hby at_132) rfl (l' := #[.val (.int p1), .val (.ref b5), .val (.ref u6), .val (.int (0 : Int32)), .val (.int (0 : Int32))]) rfl k) ?_
    show own_End p e below _ (T62.setTop (mkF m 134 #[.val (.int p1), .val (.ref b5), .val (.ref u6), .val (.int (0 : Int32)), .val (.int (0 : Int32))] []))
    refine own_by (fun _ k => XS.iloadN X62.here hx rfl (hb hby at_134) rfl k) ?_
    show own_End p e below _ (T62.setTop (mkF m 135 #[.val (.int p1), .val (.ref b5), .val (.ref u6), .val (.int (0 : Int32)), .val (.int (0 : Int32))] [(.int (0 : Int32))]))
    refine own_by (fun _ k => XS.iload X62.here hx rfl (hb hby at_135) rfl k) ?_
    show own_End p e below _ (T62.setTop (mkF m 137 #[.val (.int p1), .val (.ref b5), .val (.ref u6), .val (.int (0 : Int32)), .val (.int (0 : Int32))] [(.int (0 : Int32)), (.int (0 : Int32))]))
    refine own_by (fun _ k => XS.icmpNo X62.here hx rfl (hb hby at_137) rfl (teq (by decide)).2 k) ?_
    show own_End p e below _ (T62.setTop (mkF m 140 #[.val (.int p1), .val (.ref b5), .val (.ref u6), .val (.int (0 : Int32)), .val (.int (0 : Int32))] []))
    refine own_by (fun _ k => XS.iloadN X62.here hx rfl (hb hby at_140) rfl k) ?_
    show own_End p e below _ (T62.setTop (mkF m 141 #[.val (.int p1), .val (.ref b5), .val (.ref u6), .val (.int (0 : Int32)), .val (.int (0 : Int32))] [(.int (0 : Int32))]))
    refine own_by (fun _ k => XS.aloadN X62.here hx rfl (hb hby at_141) rfl rfl k) ?_
    show own_End p e below _ (T62.setTop (mkF m 142 #[.val (.int p1), .val (.ref b5), .val (.ref u6), .val (.int (0 : Int32)), .val (.int (0 : Int32))] [(.ref u6), (.int (0 : Int32))]))
    obtain ⟨cq63, kq63, q63a, q63b, q63c⟩ := isOf hZ e62 (E_u6.ext O35)
    obtain ⟨_, _, ⟨T63, L63, k63, n63⟩, -, X63, ⟨Lc63, hQ63, l63, y63, z63⟩, st63⟩ := X62.virtualBack hx (y := (⟨"com/example/linkwright/linkwright/program/Option", "placeholder", "()Ljava/lang/String;"⟩ : MethodName)) (z := (⟨"com/example/linkwright/linkwright/program/Option", "placeholder", "()Ljava/lang/String;"⟩ : MethodName)) hown (mvT hZ (hw _ (List.mem_of_getElem? (i := 42) rfl))) (mvT hZ (hw _ (List.mem_of_getElem? (i := 43) rfl))) (notFace_of_selects (args := #[]) (mvT hZ (hw _ (List.mem_of_getElem? (i := 45) rfl)))) (mvT hZ (hw _ (List.mem_of_getElem? (i := 45) rfl))) (mvT hZ (hw _ (List.mem_of_getElem? (i := 44) rfl))) (by decide) (own_back (W := 1) (own_phN l Z a0 hw [] u6  h35 n0 O35 P_u6) hZ (hw _ (List.mem_of_getElem? (i := 46) rfl)) (hw _ (List.mem_of_getElem? (i := 3) rfl)) (by decide) (by decide)) q63a q63c (g := (mkF m 142 #[.val (.int p1), .val (.ref b5), .val (.ref u6), .val (.int (0 : Int32)), .val (.int (0 : Int32))] [(.ref u6), (.int (0 : Int32))])) rfl (by rw [hml]; rfl) (Steps.refl _) (argsL := []) (rest := [(.int (0 : Int32))]) (lenOf own_pd1 rfl) rfl (by show 2 * 0 + _ ≤ _; exact Nat.le_of_eq rfl) (hb hby at_142) (fun _ _ => ⟨rfl, e62, (by decide : 1 + 0 ≤ _), (by decide : 15 + 0 ≤ _)⟩)
    dsimp only [Pt.U, Pt.locs, Pt.cells, Pt.slots] at X63 l63 y63 z63 st63 hQ63
    subst l63 y63 z63
    obtain ⟨rfl, N63q, e63⟩ := hQ63
    have N63 := Fr.app N61 N63q
    refine own_by (fun _ k => st63.trans k) ?_
    show own_End p e below _ (T63.setTop (mkF m 145 #[.val (.int p1), .val (.ref b5), .val (.ref u6), .val (.int (0 : Int32)), .val (.int (0 : Int32))] [.null, (.int (0 : Int32))]))
    refine own_by (fun _ k => XS.ifnullYes X63.here hx rfl (pc0 := 145) (pc' := 152) rfl (hb hby at_145) rfl (by decide) (by decide) k) ?_
    show own_End p e below _ (T63.setTop (mkF m 152 #[.val (.int p1), .val (.ref b5), .val (.ref u6), .val (.int (0 : Int32)), .val (.int (0 : Int32))] [(.int (0 : Int32))]))
    refine own_by (fun _ k => XS.iconst X63.here hx rfl (hb hby at_152) k) ?_
    show own_End p e below _ (T63.setTop (mkF m 153 #[.val (.int p1), .val (.ref b5), .val (.ref u6), .val (.int (0 : Int32)), .val (.int (0 : Int32))] [(.int (0 : Int32)), (.int (0 : Int32))]))
    refine own_by (fun _ k => XS.icmpNo X63.here hx rfl (hb hby at_153) rfl (teq (by decide)).2 k) ?_
    show own_End p e below _ (T63.setTop (mkF m 156 #[.val (.int p1), .val (.ref b5), .val (.ref u6), .val (.int (0 : Int32)), .val (.int (0 : Int32))] []))
    refine own_by (fun _ k => XS.iconst X63.here hx rfl (hb hby at_156) k) ?_
    show own_End p e below _ (T63.setTop (mkF m 157 #[.val (.int p1), .val (.ref b5), .val (.ref u6), .val (.int (0 : Int32)), .val (.int (0 : Int32))] [(.int (1 : Int32))]))
    refine own_by (fun _ k => XS.goto X63.here hx rfl (pc0 := 157) (pc' := 161) rfl (hb hby at_157) (by decide) (by decide) k) ?_
    show own_End p e below _ (T63.setTop (mkF m 161 #[.val (.int p1), .val (.ref b5), .val (.ref u6), .val (.int (0 : Int32)), .val (.int (0 : Int32))] [(.int (1 : Int32))]))
    obtain ⟨fs, hr, hrun, hended, hW, hsame⟩ := X63.leave (v := (some (.int (1 : Int32)))) (fun h => by rw [Bd.returns] at h; cases h)
    refine ⟨_, _, retN X63 hx (t := .boolean) Bd.returns (by simp) (hb hby at_161) hr, hrun, hended, _, _, rfl, ?_, ⟨_, rfl⟩, hW, hsame.mono (by decide) (by decide)⟩
    exact ⟨rfl, N63⟩
  · -- case 7
    rw [hq]
    show own_End p e below _ (T35.setTop (mkF m 113 #[.val (.int p1), .val (.ref b5), .unset, .unset, .unset] [(.int (7 : Int32)), (.ref b5)]))
    obtain ⟨cl64, Ar64, -, S64, M64, Hs64, -⟩ := V35_b5
    have hin64 : ¬ ((7 : Int32) < 0 ∨ cl64.slots.size ≤ ((7 : Int32)).toNatClampNeg) := inb_of S64 ⟨by decide, by decide⟩
    refine own_by (fun _ k => X35.aaload hx (j := (7 : Int32)) (v := (.ref u7)) (by rw [e35]; exact Ar64.1) (State.isArrayOf_alike hZ.alike Ar64.2.1) rfl Ar64.2.2 hin64 (Has.at Hs64 hin64 rfl) (g := (mkF m 113 #[.val (.int p1), .val (.ref b5), .unset, .unset, .unset] [(.int (7 : Int32)), (.ref b5)])) rfl rfl (hb hby at_113) _ k) ?_
    show own_End p e below _ (T35.setTop (mkF m 114 #[.val (.int p1), .val (.ref b5), .unset, .unset, .unset] [(.ref u7)]))
    refine own_by (fun _ k => XS.astoreN X35.here hx rfl (hb hby at_114) rfl rfl (l' := #[.val (.int p1), .val (.ref b5), .val (.ref u7), .unset, .unset]) rfl k) ?_
    show own_End p e below _ (T35.setTop (mkF m 115 #[.val (.int p1), .val (.ref b5), .val (.ref u7), .unset, .unset] []))
    refine own_by (fun _ k => XS.aloadN X35.here hx rfl (hb hby at_115) rfl rfl k) ?_
    show own_End p e below _ (T35.setTop (mkF m 116 #[.val (.int p1), .val (.ref b5), .val (.ref u7), .unset, .unset] [(.ref u7)]))
    obtain ⟨cq65, kq65, q65a, q65b, q65c⟩ := isOf hZ e35 (E_u7.ext O35)
    obtain ⟨_, _, ⟨T65, L65, k65, n65⟩, -, X65, ⟨Lc65, hQ65, l65, y65, z65⟩, st65⟩ := X35.virtualBack hx (y := (⟨"com/example/linkwright/linkwright/program/Option", "takesValue", "()Z"⟩ : MethodName)) (z := (⟨"com/example/linkwright/linkwright/program/Option", "takesValue", "()Z"⟩ : MethodName)) hown (mvT hZ (hw _ (List.mem_of_getElem? (i := 35) rfl))) (mvT hZ (hw _ (List.mem_of_getElem? (i := 36) rfl))) (notFace_of_selects (args := #[]) (mvT hZ (hw _ (List.mem_of_getElem? (i := 38) rfl)))) (mvT hZ (hw _ (List.mem_of_getElem? (i := 38) rfl))) (mvT hZ (hw _ (List.mem_of_getElem? (i := 37) rfl))) (by decide) (own_back (W := 0) (own_tkR l Z a0 hw [] u7 x7 h35 n0 O35 P_u7) hZ (hw _ (List.mem_of_getElem? (i := 39) rfl)) (hw _ (List.mem_of_getElem? (i := 3) rfl)) (by decide) (by decide)) q65a q65c (g := (mkF m 116 #[.val (.int p1), .val (.ref b5), .val (.ref u7), .unset, .unset] [(.ref u7)])) rfl (by rw [hml]; rfl) (Steps.refl _) (argsL := []) (rest := []) (lenOf own_pd0 rfl) rfl (by show 2 * 0 + _ ≤ _; exact Nat.le_of_eq rfl) (hb hby at_116) (fun _ _ => ⟨rfl, e35, (by decide : 1 + 0 ≤ _), (by decide : 15 + 0 ≤ _)⟩)
    dsimp only [Pt.U, Pt.locs, Pt.cells, Pt.slots] at X65 l65 y65 z65 st65 hQ65
    subst l65 y65 z65
    obtain ⟨rfl, N65q, e65⟩ := hQ65
    have N65 := Fr.app N35 N65q
    refine own_by (fun _ k => st65.trans k) ?_
    show own_End p e below _ (T65.setTop (mkF m 119 #[.val (.int p1), .val (.ref b5), .val (.ref u7), .unset, .unset] [(.int (1 : Int32))]))
    refine own_by (fun _ k => XS.istoreN X65.here hx rfl (hb hby at_119) rfl (l' := #[.val (.int p1), .val (.ref b5), .val (.ref u7), .val (.int (1 : Int32)), .unset]) rfl k) ?_
    show own_End p e below _ (T65.setTop (mkF m 120 #[.val (.int p1), .val (.ref b5), .val (.ref u7), .val (.int (1 : Int32)), .unset] []))
    refine own_by (fun _ k => XS.aloadN X65.here hx rfl (hb hby at_120) rfl rfl k) ?_
    show own_End p e below _ (T65.setTop (mkF m 121 #[.val (.int p1), .val (.ref b5), .val (.ref u7), .val (.int (1 : Int32)), .unset] [(.ref u7)]))
    obtain ⟨T66, X66, e66, st66⟩ := getS2 X65 hx hZ hown (host := "") (Or.inl (hw _ (List.mem_of_getElem? (i := 16) rfl))) Via.refl e65 (S_u6.ext O35) (g := (mkF m 121 #[.val (.int p1), .val (.ref b5), .val (.ref u7), .val (.int (1 : Int32)), .unset] [(.ref u7)])) rfl (hb hby at_121)
    refine own_by st66 ?_
    show own_End p e below _ (T66.setTop (mkF m 124 #[.val (.int p1), .val (.ref b5), .val (.ref u7), .val (.int (1 : Int32)), .unset] [(.ref u6), (.ref u7)]))
    refine own_by (fun _ k => Jvm.RoadKit.acmp (g := (mkF m 124 #[.val (.int p1), .val (.ref b5), .val (.ref u7), .val (.int (1 : Int32)), .unset] [(.ref u6), (.ref u7)])) X66 hx rfl rfl rfl (pc0 := 124) (pc' := 127) (same := false) rfl (hb hby at_124) rfl (decide_eq_false fun q => (F_u7.ne F_u6 (by decide)) (Value.ref.inj q)) (by decide) (by decide) k) ?_
    show own_End p e below _ (T66.setTop (mkF m 127 #[.val (.int p1), .val (.ref b5), .val (.ref u7), .val (.int (1 : Int32)), .unset] []))
    refine own_by (fun _ k => XS.iconst X66.here hx rfl (hb hby at_127) k) ?_
    show own_End p e below _ (T66.setTop (mkF m 128 #[.val (.int p1), .val (.ref b5), .val (.ref u7), .val (.int (1 : Int32)), .unset] [(.int (1 : Int32))]))
    refine own_by (fun _ k => XS.goto X66.here hx rfl (pc0 := 128) (pc' := 132) rfl (hb hby at_128) (by decide) (by decide) k) ?_
    show own_End p e below _ (T66.setTop (mkF m 132 #[.val (.int p1), .val (.ref b5), .val (.ref u7), .val (.int (1 : Int32)), .unset] [(.int (1 : Int32))]))
    refine own_by (fun _ k => XS.istore X66.here hx rfl (hb hby at_132) rfl (l' := #[.val (.int p1), .val (.ref b5), .val (.ref u7), .val (.int (1 : Int32)), .val (.int (1 : Int32))]) rfl k) ?_
    show own_End p e below _ (T66.setTop (mkF m 134 #[.val (.int p1), .val (.ref b5), .val (.ref u7), .val (.int (1 : Int32)), .val (.int (1 : Int32))] []))
    refine own_by (fun _ k => XS.iloadN X66.here hx rfl (hb hby at_134) rfl k) ?_
    show own_End p e below _ (T66.setTop (mkF m 135 #[.val (.int p1), .val (.ref b5), .val (.ref u7), .val (.int (1 : Int32)), .val (.int (1 : Int32))] [(.int (1 : Int32))]))
    refine own_by (fun _ k => XS.iload X66.here hx rfl (hb hby at_135) rfl k) ?_
    show own_End p e below _ (T66.setTop (mkF m 137 #[.val (.int p1), .val (.ref b5), .val (.ref u7), .val (.int (1 : Int32)), .val (.int (1 : Int32))] [(.int (1 : Int32)), (.int (1 : Int32))]))
    refine own_by (fun _ k => XS.icmpNo X66.here hx rfl (hb hby at_137) rfl (teq (by decide)).2 k) ?_
    show own_End p e below _ (T66.setTop (mkF m 140 #[.val (.int p1), .val (.ref b5), .val (.ref u7), .val (.int (1 : Int32)), .val (.int (1 : Int32))] []))
    refine own_by (fun _ k => XS.iloadN X66.here hx rfl (hb hby at_140) rfl k) ?_
    show own_End p e below _ (T66.setTop (mkF m 141 #[.val (.int p1), .val (.ref b5), .val (.ref u7), .val (.int (1 : Int32)), .val (.int (1 : Int32))] [(.int (1 : Int32))]))
    refine own_by (fun _ k => XS.aloadN X66.here hx rfl (hb hby at_141) rfl rfl k) ?_
    show own_End p e below _ (T66.setTop (mkF m 142 #[.val (.int p1), .val (.ref b5), .val (.ref u7), .val (.int (1 : Int32)), .val (.int (1 : Int32))] [(.ref u7), (.int (1 : Int32))]))
    obtain ⟨cq67, kq67, q67a, q67b, q67c⟩ := isOf hZ e66 (E_u7.ext O35)
    obtain ⟨_, _, ⟨T67, L67, k67, n67⟩, -, X67, ⟨Lc67, hQ67, l67, y67, z67⟩, st67⟩ := X66.virtualBack hx (y := (⟨"com/example/linkwright/linkwright/program/Option", "placeholder", "()Ljava/lang/String;"⟩ : MethodName)) (z := (⟨"com/example/linkwright/linkwright/program/Option", "placeholder", "()Ljava/lang/String;"⟩ : MethodName)) hown (mvT hZ (hw _ (List.mem_of_getElem? (i := 42) rfl))) (mvT hZ (hw _ (List.mem_of_getElem? (i := 43) rfl))) (notFace_of_selects (args := #[]) (mvT hZ (hw _ (List.mem_of_getElem? (i := 45) rfl)))) (mvT hZ (hw _ (List.mem_of_getElem? (i := 45) rfl))) (mvT hZ (hw _ (List.mem_of_getElem? (i := 44) rfl))) (by decide) (own_back (W := 1) (own_phR l Z a0 hw [] u7 x7 h35 n0 O35 P_u7) hZ (hw _ (List.mem_of_getElem? (i := 46) rfl)) (hw _ (List.mem_of_getElem? (i := 3) rfl)) (by decide) (by decide)) q67a q67c (g := (mkF m 142 #[.val (.int p1), .val (.ref b5), .val (.ref u7), .val (.int (1 : Int32)), .val (.int (1 : Int32))] [(.ref u7), (.int (1 : Int32))])) rfl (by rw [hml]; rfl) (Steps.refl _) (argsL := []) (rest := [(.int (1 : Int32))]) (lenOf own_pd1 rfl) rfl (by show 2 * 0 + _ ≤ _; exact Nat.le_of_eq rfl) (hb hby at_142) (fun _ _ => ⟨rfl, e66, (by decide : 1 + 0 ≤ _), (by decide : 15 + 0 ≤ _)⟩)
    dsimp only [Pt.U, Pt.locs, Pt.cells, Pt.slots] at X67 l67 y67 z67 st67 hQ67
    subst l67 y67 z67
    obtain ⟨rfl, N67q, e67⟩ := hQ67
    have N67 := Fr.app N65 N67q
    refine own_by (fun _ k => st67.trans k) ?_
    show own_End p e below _ (T67.setTop (mkF m 145 #[.val (.int p1), .val (.ref b5), .val (.ref u7), .val (.int (1 : Int32)), .val (.int (1 : Int32))] [(.ref x7), (.int (1 : Int32))]))
    refine own_by (fun _ k => XS.ifnullNo X67.here hx rfl (hb hby at_145) rfl k) ?_
    show own_End p e below _ (T67.setTop (mkF m 148 #[.val (.int p1), .val (.ref b5), .val (.ref u7), .val (.int (1 : Int32)), .val (.int (1 : Int32))] [(.int (1 : Int32))]))
    refine own_by (fun _ k => XS.iconst X67.here hx rfl (hb hby at_148) k) ?_
    show own_End p e below _ (T67.setTop (mkF m 149 #[.val (.int p1), .val (.ref b5), .val (.ref u7), .val (.int (1 : Int32)), .val (.int (1 : Int32))] [(.int (1 : Int32)), (.int (1 : Int32))]))
    refine own_by (fun _ k => XS.goto X67.here hx rfl (pc0 := 149) (pc' := 153) rfl (hb hby at_149) (by decide) (by decide) k) ?_
    show own_End p e below _ (T67.setTop (mkF m 153 #[.val (.int p1), .val (.ref b5), .val (.ref u7), .val (.int (1 : Int32)), .val (.int (1 : Int32))] [(.int (1 : Int32)), (.int (1 : Int32))]))
    refine own_by (fun _ k => XS.icmpNo X67.here hx rfl (hb hby at_153) rfl (teq (by decide)).2 k) ?_
    show own_End p e below _ (T67.setTop (mkF m 156 #[.val (.int p1), .val (.ref b5), .val (.ref u7), .val (.int (1 : Int32)), .val (.int (1 : Int32))] []))
    refine own_by (fun _ k => XS.iconst X67.here hx rfl (hb hby at_156) k) ?_
    show own_End p e below _ (T67.setTop (mkF m 157 #[.val (.int p1), .val (.ref b5), .val (.ref u7), .val (.int (1 : Int32)), .val (.int (1 : Int32))] [(.int (1 : Int32))]))
    refine own_by (fun _ k => XS.goto X67.here hx rfl (pc0 := 157) (pc' := 161) rfl (hb hby at_157) (by decide) (by decide) k) ?_
    show own_End p e below _ (T67.setTop (mkF m 161 #[.val (.int p1), .val (.ref b5), .val (.ref u7), .val (.int (1 : Int32)), .val (.int (1 : Int32))] [(.int (1 : Int32))]))
    obtain ⟨fs, hr, hrun, hended, hW, hsame⟩ := X67.leave (v := (some (.int (1 : Int32)))) (fun h => by rw [Bd.returns] at h; cases h)
    refine ⟨_, _, retN X67 hx (t := .boolean) Bd.returns (by simp) (hb hby at_161) hr, hrun, hended, _, _, rfl, ?_, ⟨_, rfl⟩, hW, hsame.mono (by decide) (by decide)⟩
    exact ⟨rfl, N67⟩
  · -- case 8
    rw [hq]
    show own_End p e below _ (T35.setTop (mkF m 113 #[.val (.int p1), .val (.ref b5), .unset, .unset, .unset] [(.int (8 : Int32)), (.ref b5)]))
    obtain ⟨cl68, Ar68, -, S68, M68, Hs68, -⟩ := V35_b5
    have hin68 : ¬ ((8 : Int32) < 0 ∨ cl68.slots.size ≤ ((8 : Int32)).toNatClampNeg) := inb_of S68 ⟨by decide, by decide⟩
    refine own_by (fun _ k => X35.aaload hx (j := (8 : Int32)) (v := (.ref u8)) (by rw [e35]; exact Ar68.1) (State.isArrayOf_alike hZ.alike Ar68.2.1) rfl Ar68.2.2 hin68 (Has.at Hs68 hin68 rfl) (g := (mkF m 113 #[.val (.int p1), .val (.ref b5), .unset, .unset, .unset] [(.int (8 : Int32)), (.ref b5)])) rfl rfl (hb hby at_113) _ k) ?_
    show own_End p e below _ (T35.setTop (mkF m 114 #[.val (.int p1), .val (.ref b5), .unset, .unset, .unset] [(.ref u8)]))
    refine own_by (fun _ k => XS.astoreN X35.here hx rfl (hb hby at_114) rfl rfl (l' := #[.val (.int p1), .val (.ref b5), .val (.ref u8), .unset, .unset]) rfl k) ?_
    show own_End p e below _ (T35.setTop (mkF m 115 #[.val (.int p1), .val (.ref b5), .val (.ref u8), .unset, .unset] []))
    refine own_by (fun _ k => XS.aloadN X35.here hx rfl (hb hby at_115) rfl rfl k) ?_
    show own_End p e below _ (T35.setTop (mkF m 116 #[.val (.int p1), .val (.ref b5), .val (.ref u8), .unset, .unset] [(.ref u8)]))
    obtain ⟨cq69, kq69, q69a, q69b, q69c⟩ := isOf hZ e35 (E_u8.ext O35)
    obtain ⟨_, _, ⟨T69, L69, k69, n69⟩, -, X69, ⟨Lc69, hQ69, l69, y69, z69⟩, st69⟩ := X35.virtualBack hx (y := (⟨"com/example/linkwright/linkwright/program/Option", "takesValue", "()Z"⟩ : MethodName)) (z := (⟨"com/example/linkwright/linkwright/program/Option", "takesValue", "()Z"⟩ : MethodName)) hown (mvT hZ (hw _ (List.mem_of_getElem? (i := 35) rfl))) (mvT hZ (hw _ (List.mem_of_getElem? (i := 36) rfl))) (notFace_of_selects (args := #[]) (mvT hZ (hw _ (List.mem_of_getElem? (i := 38) rfl)))) (mvT hZ (hw _ (List.mem_of_getElem? (i := 38) rfl))) (mvT hZ (hw _ (List.mem_of_getElem? (i := 37) rfl))) (by decide) (own_back (W := 0) (own_tkR l Z a0 hw [] u8 x8 h35 n0 O35 P_u8) hZ (hw _ (List.mem_of_getElem? (i := 39) rfl)) (hw _ (List.mem_of_getElem? (i := 3) rfl)) (by decide) (by decide)) q69a q69c (g := (mkF m 116 #[.val (.int p1), .val (.ref b5), .val (.ref u8), .unset, .unset] [(.ref u8)])) rfl (by rw [hml]; rfl) (Steps.refl _) (argsL := []) (rest := []) (lenOf own_pd0 rfl) rfl (by show 2 * 0 + _ ≤ _; exact Nat.le_of_eq rfl) (hb hby at_116) (fun _ _ => ⟨rfl, e35, (by decide : 1 + 0 ≤ _), (by decide : 15 + 0 ≤ _)⟩)
    dsimp only [Pt.U, Pt.locs, Pt.cells, Pt.slots] at X69 l69 y69 z69 st69 hQ69
    subst l69 y69 z69
    obtain ⟨rfl, N69q, e69⟩ := hQ69
    have N69 := Fr.app N35 N69q
    refine own_by (fun _ k => st69.trans k) ?_
    show own_End p e below _ (T69.setTop (mkF m 119 #[.val (.int p1), .val (.ref b5), .val (.ref u8), .unset, .unset] [(.int (1 : Int32))]))
    refine own_by (fun _ k => XS.istoreN X69.here hx rfl (hb hby at_119) rfl (l' := #[.val (.int p1), .val (.ref b5), .val (.ref u8), .val (.int (1 : Int32)), .unset]) rfl k) ?_
    show own_End p e below _ (T69.setTop (mkF m 120 #[.val (.int p1), .val (.ref b5), .val (.ref u8), .val (.int (1 : Int32)), .unset] []))
    refine own_by (fun _ k => XS.aloadN X69.here hx rfl (hb hby at_120) rfl rfl k) ?_
    show own_End p e below _ (T69.setTop (mkF m 121 #[.val (.int p1), .val (.ref b5), .val (.ref u8), .val (.int (1 : Int32)), .unset] [(.ref u8)]))
    obtain ⟨T70, X70, e70, st70⟩ := getS2 X69 hx hZ hown (host := "") (Or.inl (hw _ (List.mem_of_getElem? (i := 16) rfl))) Via.refl e69 (S_u6.ext O35) (g := (mkF m 121 #[.val (.int p1), .val (.ref b5), .val (.ref u8), .val (.int (1 : Int32)), .unset] [(.ref u8)])) rfl (hb hby at_121)
    refine own_by st70 ?_
    show own_End p e below _ (T70.setTop (mkF m 124 #[.val (.int p1), .val (.ref b5), .val (.ref u8), .val (.int (1 : Int32)), .unset] [(.ref u6), (.ref u8)]))
    refine own_by (fun _ k => Jvm.RoadKit.acmp (g := (mkF m 124 #[.val (.int p1), .val (.ref b5), .val (.ref u8), .val (.int (1 : Int32)), .unset] [(.ref u6), (.ref u8)])) X70 hx rfl rfl rfl (pc0 := 124) (pc' := 127) (same := false) rfl (hb hby at_124) rfl (decide_eq_false fun q => (F_u8.ne F_u6 (by decide)) (Value.ref.inj q)) (by decide) (by decide) k) ?_
    show own_End p e below _ (T70.setTop (mkF m 127 #[.val (.int p1), .val (.ref b5), .val (.ref u8), .val (.int (1 : Int32)), .unset] []))
    refine own_by (fun _ k => XS.iconst X70.here hx rfl (hb hby at_127) k) ?_
    show own_End p e below _ (T70.setTop (mkF m 128 #[.val (.int p1), .val (.ref b5), .val (.ref u8), .val (.int (1 : Int32)), .unset] [(.int (1 : Int32))]))
    refine own_by (fun _ k => XS.goto X70.here hx rfl (pc0 := 128) (pc' := 132) rfl (hb hby at_128) (by decide) (by decide) k) ?_
    show own_End p e below _ (T70.setTop (mkF m 132 #[.val (.int p1), .val (.ref b5), .val (.ref u8), .val (.int (1 : Int32)), .unset] [(.int (1 : Int32))]))
    refine own_by (fun _ k => XS.istore X70.here hx rfl (hb hby at_132) rfl (l' := #[.val (.int p1), .val (.ref b5), .val (.ref u8), .val (.int (1 : Int32)), .val (.int (1 : Int32))]) rfl k) ?_
    show own_End p e below _ (T70.setTop (mkF m 134 #[.val (.int p1), .val (.ref b5), .val (.ref u8), .val (.int (1 : Int32)), .val (.int (1 : Int32))] []))
    refine own_by (fun _ k => XS.iloadN X70.here hx rfl (hb hby at_134) rfl k) ?_
    show own_End p e below _ (T70.setTop (mkF m 135 #[.val (.int p1), .val (.ref b5), .val (.ref u8), .val (.int (1 : Int32)), .val (.int (1 : Int32))] [(.int (1 : Int32))]))
    refine own_by (fun _ k => XS.iload X70.here hx rfl (hb hby at_135) rfl k) ?_
    show own_End p e below _ (T70.setTop (mkF m 137 #[.val (.int p1), .val (.ref b5), .val (.ref u8), .val (.int (1 : Int32)), .val (.int (1 : Int32))] [(.int (1 : Int32)), (.int (1 : Int32))]))
    refine own_by (fun _ k => XS.icmpNo X70.here hx rfl (hb hby at_137) rfl (teq (by decide)).2 k) ?_
    show own_End p e below _ (T70.setTop (mkF m 140 #[.val (.int p1), .val (.ref b5), .val (.ref u8), .val (.int (1 : Int32)), .val (.int (1 : Int32))] []))
    refine own_by (fun _ k => XS.iloadN X70.here hx rfl (hb hby at_140) rfl k) ?_
    show own_End p e below _ (T70.setTop (mkF m 141 #[.val (.int p1), .val (.ref b5), .val (.ref u8), .val (.int (1 : Int32)), .val (.int (1 : Int32))] [(.int (1 : Int32))]))
    refine own_by (fun _ k => XS.aloadN X70.here hx rfl (hb hby at_141) rfl rfl k) ?_
    show own_End p e below _ (T70.setTop (mkF m 142 #[.val (.int p1), .val (.ref b5), .val (.ref u8), .val (.int (1 : Int32)), .val (.int (1 : Int32))] [(.ref u8), (.int (1 : Int32))]))
    obtain ⟨cq71, kq71, q71a, q71b, q71c⟩ := isOf hZ e70 (E_u8.ext O35)
    obtain ⟨_, _, ⟨T71, L71, k71, n71⟩, -, X71, ⟨Lc71, hQ71, l71, y71, z71⟩, st71⟩ := X70.virtualBack hx (y := (⟨"com/example/linkwright/linkwright/program/Option", "placeholder", "()Ljava/lang/String;"⟩ : MethodName)) (z := (⟨"com/example/linkwright/linkwright/program/Option", "placeholder", "()Ljava/lang/String;"⟩ : MethodName)) hown (mvT hZ (hw _ (List.mem_of_getElem? (i := 42) rfl))) (mvT hZ (hw _ (List.mem_of_getElem? (i := 43) rfl))) (notFace_of_selects (args := #[]) (mvT hZ (hw _ (List.mem_of_getElem? (i := 45) rfl)))) (mvT hZ (hw _ (List.mem_of_getElem? (i := 45) rfl))) (mvT hZ (hw _ (List.mem_of_getElem? (i := 44) rfl))) (by decide) (own_back (W := 1) (own_phR l Z a0 hw [] u8 x8 h35 n0 O35 P_u8) hZ (hw _ (List.mem_of_getElem? (i := 46) rfl)) (hw _ (List.mem_of_getElem? (i := 3) rfl)) (by decide) (by decide)) q71a q71c (g := (mkF m 142 #[.val (.int p1), .val (.ref b5), .val (.ref u8), .val (.int (1 : Int32)), .val (.int (1 : Int32))] [(.ref u8), (.int (1 : Int32))])) rfl (by rw [hml]; rfl) (Steps.refl _) (argsL := []) (rest := [(.int (1 : Int32))]) (lenOf own_pd1 rfl) rfl (by show 2 * 0 + _ ≤ _; exact Nat.le_of_eq rfl) (hb hby at_142) (fun _ _ => ⟨rfl, e70, (by decide : 1 + 0 ≤ _), (by decide : 15 + 0 ≤ _)⟩)
    dsimp only [Pt.U, Pt.locs, Pt.cells, Pt.slots] at X71 l71 y71 z71 st71 hQ71
    subst l71 y71 z71
    obtain ⟨rfl, N71q, e71⟩ := hQ71
    have N71 := Fr.app N69 N71q
    refine own_by (fun _ k => st71.trans k) ?_
    show own_End p e below _ (T71.setTop (mkF m 145 #[.val (.int p1), .val (.ref b5), .val (.ref u8), .val (.int (1 : Int32)), .val (.int (1 : Int32))] [(.ref x8), (.int (1 : Int32))]))
    refine own_by (fun _ k => XS.ifnullNo X71.here hx rfl (hb hby at_145) rfl k) ?_
    show own_End p e below _ (T71.setTop (mkF m 148 #[.val (.int p1), .val (.ref b5), .val (.ref u8), .val (.int (1 : Int32)), .val (.int (1 : Int32))] [(.int (1 : Int32))]))
    refine own_by (fun _ k => XS.iconst X71.here hx rfl (hb hby at_148) k) ?_
    show own_End p e below _ (T71.setTop (mkF m 149 #[.val (.int p1), .val (.ref b5), .val (.ref u8), .val (.int (1 : Int32)), .val (.int (1 : Int32))] [(.int (1 : Int32)), (.int (1 : Int32))]))
    refine own_by (fun _ k => XS.goto X71.here hx rfl (pc0 := 149) (pc' := 153) rfl (hb hby at_149) (by decide) (by decide) k) ?_
    show own_End p e below _ (T71.setTop (mkF m 153 #[.val (.int p1), .val (.ref b5), .val (.ref u8), .val (.int (1 : Int32)), .val (.int (1 : Int32))] [(.int (1 : Int32)), (.int (1 : Int32))]))
    refine own_by (fun _ k => XS.icmpNo X71.here hx rfl (hb hby at_153) rfl (teq (by decide)).2 k) ?_
    show own_End p e below _ (T71.setTop (mkF m 156 #[.val (.int p1), .val (.ref b5), .val (.ref u8), .val (.int (1 : Int32)), .val (.int (1 : Int32))] []))
    refine own_by (fun _ k => XS.iconst X71.here hx rfl (hb hby at_156) k) ?_
    show own_End p e below _ (T71.setTop (mkF m 157 #[.val (.int p1), .val (.ref b5), .val (.ref u8), .val (.int (1 : Int32)), .val (.int (1 : Int32))] [(.int (1 : Int32))]))
    refine own_by (fun _ k => XS.goto X71.here hx rfl (pc0 := 157) (pc' := 161) rfl (hb hby at_157) (by decide) (by decide) k) ?_
    show own_End p e below _ (T71.setTop (mkF m 161 #[.val (.int p1), .val (.ref b5), .val (.ref u8), .val (.int (1 : Int32)), .val (.int (1 : Int32))] [(.int (1 : Int32))]))
    obtain ⟨fs, hr, hrun, hended, hW, hsame⟩ := X71.leave (v := (some (.int (1 : Int32)))) (fun h => by rw [Bd.returns] at h; cases h)
    refine ⟨_, _, retN X71 hx (t := .boolean) Bd.returns (by simp) (hb hby at_161) hr, hrun, hended, _, _, rfl, ?_, ⟨_, rfl⟩, hW, hsame.mono (by decide) (by decide)⟩
    exact ⟨rfl, N71⟩
  · -- case 9
    rw [hq]
    show own_End p e below _ (T35.setTop (mkF m 113 #[.val (.int p1), .val (.ref b5), .unset, .unset, .unset] [(.int (9 : Int32)), (.ref b5)]))
    obtain ⟨cl72, Ar72, -, S72, M72, Hs72, -⟩ := V35_b5
    have hin72 : ¬ ((9 : Int32) < 0 ∨ cl72.slots.size ≤ ((9 : Int32)).toNatClampNeg) := inb_of S72 ⟨by decide, by decide⟩
    refine own_by (fun _ k => X35.aaload hx (j := (9 : Int32)) (v := (.ref u9)) (by rw [e35]; exact Ar72.1) (State.isArrayOf_alike hZ.alike Ar72.2.1) rfl Ar72.2.2 hin72 (Has.at Hs72 hin72 rfl) (g := (mkF m 113 #[.val (.int p1), .val (.ref b5), .unset, .unset, .unset] [(.int (9 : Int32)), (.ref b5)])) rfl rfl (hb hby at_113) _ k) ?_
    show own_End p e below _ (T35.setTop (mkF m 114 #[.val (.int p1), .val (.ref b5), .unset, .unset, .unset] [(.ref u9)]))
    refine own_by (fun _ k => XS.astoreN X35.here hx rfl (hb hby at_114) rfl rfl (l' := #[.val (.int p1), .val (.ref b5), .val (.ref u9), .unset, .unset]) rfl k) ?_
    show own_End p e below _ (T35.setTop (mkF m 115 #[.val (.int p1), .val (.ref b5), .val (.ref u9), .unset, .unset] []))
    refine own_by (fun _ k => XS.aloadN X35.here hx rfl (hb hby at_115) rfl rfl k) ?_
    show own_End p e below _ (T35.setTop (mkF m 116 #[.val (.int p1), .val (.ref b5), .val (.ref u9), .unset, .unset] [(.ref u9)]))
    obtain ⟨cq73, kq73, q73a, q73b, q73c⟩ := isOf hZ e35 (E_u9.ext O35)
    obtain ⟨_, _, ⟨T73, L73, k73, n73⟩, -, X73, ⟨Lc73, hQ73, l73, y73, z73⟩, st73⟩ := X35.virtualBack hx (y := (⟨"com/example/linkwright/linkwright/program/Option", "takesValue", "()Z"⟩ : MethodName)) (z := (⟨"com/example/linkwright/linkwright/program/Option", "takesValue", "()Z"⟩ : MethodName)) hown (mvT hZ (hw _ (List.mem_of_getElem? (i := 35) rfl))) (mvT hZ (hw _ (List.mem_of_getElem? (i := 36) rfl))) (notFace_of_selects (args := #[]) (mvT hZ (hw _ (List.mem_of_getElem? (i := 38) rfl)))) (mvT hZ (hw _ (List.mem_of_getElem? (i := 38) rfl))) (mvT hZ (hw _ (List.mem_of_getElem? (i := 37) rfl))) (by decide) (own_back (W := 0) (own_tkR l Z a0 hw [] u9 x11 h35 n0 O35 P_u9) hZ (hw _ (List.mem_of_getElem? (i := 39) rfl)) (hw _ (List.mem_of_getElem? (i := 3) rfl)) (by decide) (by decide)) q73a q73c (g := (mkF m 116 #[.val (.int p1), .val (.ref b5), .val (.ref u9), .unset, .unset] [(.ref u9)])) rfl (by rw [hml]; rfl) (Steps.refl _) (argsL := []) (rest := []) (lenOf own_pd0 rfl) rfl (by show 2 * 0 + _ ≤ _; exact Nat.le_of_eq rfl) (hb hby at_116) (fun _ _ => ⟨rfl, e35, (by decide : 1 + 0 ≤ _), (by decide : 15 + 0 ≤ _)⟩)
    dsimp only [Pt.U, Pt.locs, Pt.cells, Pt.slots] at X73 l73 y73 z73 st73 hQ73
    subst l73 y73 z73
    obtain ⟨rfl, N73q, e73⟩ := hQ73
    have N73 := Fr.app N35 N73q
    refine own_by (fun _ k => st73.trans k) ?_
    show own_End p e below _ (T73.setTop (mkF m 119 #[.val (.int p1), .val (.ref b5), .val (.ref u9), .unset, .unset] [(.int (1 : Int32))]))
    refine own_by (fun _ k => XS.istoreN X73.here hx rfl (hb hby at_119) rfl (l' := #[.val (.int p1), .val (.ref b5), .val (.ref u9), .val (.int (1 : Int32)), .unset]) rfl k) ?_
    show own_End p e below _ (T73.setTop (mkF m 120 #[.val (.int p1), .val (.ref b5), .val (.ref u9), .val (.int (1 : Int32)), .unset] []))
    refine own_by (fun _ k => XS.aloadN X73.here hx rfl (hb hby at_120) rfl rfl k) ?_
    show own_End p e below _ (T73.setTop (mkF m 121 #[.val (.int p1), .val (.ref b5), .val (.ref u9), .val (.int (1 : Int32)), .unset] [(.ref u9)]))
    obtain ⟨T74, X74, e74, st74⟩ := getS2 X73 hx hZ hown (host := "") (Or.inl (hw _ (List.mem_of_getElem? (i := 16) rfl))) Via.refl e73 (S_u6.ext O35) (g := (mkF m 121 #[.val (.int p1), .val (.ref b5), .val (.ref u9), .val (.int (1 : Int32)), .unset] [(.ref u9)])) rfl (hb hby at_121)
    refine own_by st74 ?_
    show own_End p e below _ (T74.setTop (mkF m 124 #[.val (.int p1), .val (.ref b5), .val (.ref u9), .val (.int (1 : Int32)), .unset] [(.ref u6), (.ref u9)]))
    refine own_by (fun _ k => Jvm.RoadKit.acmp (g := (mkF m 124 #[.val (.int p1), .val (.ref b5), .val (.ref u9), .val (.int (1 : Int32)), .unset] [(.ref u6), (.ref u9)])) X74 hx rfl rfl rfl (pc0 := 124) (pc' := 127) (same := false) rfl (hb hby at_124) rfl (decide_eq_false fun q => (F_u9.ne F_u6 (by decide)) (Value.ref.inj q)) (by decide) (by decide) k) ?_
    show own_End p e below _ (T74.setTop (mkF m 127 #[.val (.int p1), .val (.ref b5), .val (.ref u9), .val (.int (1 : Int32)), .unset] []))
    refine own_by (fun _ k => XS.iconst X74.here hx rfl (hb hby at_127) k) ?_
    show own_End p e below _ (T74.setTop (mkF m 128 #[.val (.int p1), .val (.ref b5), .val (.ref u9), .val (.int (1 : Int32)), .unset] [(.int (1 : Int32))]))
    refine own_by (fun _ k => XS.goto X74.here hx rfl (pc0 := 128) (pc' := 132) rfl (hb hby at_128) (by decide) (by decide) k) ?_
    show own_End p e below _ (T74.setTop (mkF m 132 #[.val (.int p1), .val (.ref b5), .val (.ref u9), .val (.int (1 : Int32)), .unset] [(.int (1 : Int32))]))
    refine own_by (fun _ k => XS.istore X74.here hx rfl (hb hby at_132) rfl (l' := #[.val (.int p1), .val (.ref b5), .val (.ref u9), .val (.int (1 : Int32)), .val (.int (1 : Int32))]) rfl k) ?_
    show own_End p e below _ (T74.setTop (mkF m 134 #[.val (.int p1), .val (.ref b5), .val (.ref u9), .val (.int (1 : Int32)), .val (.int (1 : Int32))] []))
    refine own_by (fun _ k => XS.iloadN X74.here hx rfl (hb hby at_134) rfl k) ?_
    show own_End p e below _ (T74.setTop (mkF m 135 #[.val (.int p1), .val (.ref b5), .val (.ref u9), .val (.int (1 : Int32)), .val (.int (1 : Int32))] [(.int (1 : Int32))]))
    refine own_by (fun _ k => XS.iload X74.here hx rfl (hb hby at_135) rfl k) ?_
    show own_End p e below _ (T74.setTop (mkF m 137 #[.val (.int p1), .val (.ref b5), .val (.ref u9), .val (.int (1 : Int32)), .val (.int (1 : Int32))] [(.int (1 : Int32)), (.int (1 : Int32))]))
    refine own_by (fun _ k => XS.icmpNo X74.here hx rfl (hb hby at_137) rfl (teq (by decide)).2 k) ?_
    show own_End p e below _ (T74.setTop (mkF m 140 #[.val (.int p1), .val (.ref b5), .val (.ref u9), .val (.int (1 : Int32)), .val (.int (1 : Int32))] []))
    refine own_by (fun _ k => XS.iloadN X74.here hx rfl (hb hby at_140) rfl k) ?_
    show own_End p e below _ (T74.setTop (mkF m 141 #[.val (.int p1), .val (.ref b5), .val (.ref u9), .val (.int (1 : Int32)), .val (.int (1 : Int32))] [(.int (1 : Int32))]))
    refine own_by (fun _ k => XS.aloadN X74.here hx rfl (hb hby at_141) rfl rfl k) ?_
    show own_End p e below _ (T74.setTop (mkF m 142 #[.val (.int p1), .val (.ref b5), .val (.ref u9), .val (.int (1 : Int32)), .val (.int (1 : Int32))] [(.ref u9), (.int (1 : Int32))]))
    obtain ⟨cq75, kq75, q75a, q75b, q75c⟩ := isOf hZ e74 (E_u9.ext O35)
    obtain ⟨_, _, ⟨T75, L75, k75, n75⟩, -, X75, ⟨Lc75, hQ75, l75, y75, z75⟩, st75⟩ := X74.virtualBack hx (y := (⟨"com/example/linkwright/linkwright/program/Option", "placeholder", "()Ljava/lang/String;"⟩ : MethodName)) (z := (⟨"com/example/linkwright/linkwright/program/Option", "placeholder", "()Ljava/lang/String;"⟩ : MethodName)) hown (mvT hZ (hw _ (List.mem_of_getElem? (i := 42) rfl))) (mvT hZ (hw _ (List.mem_of_getElem? (i := 43) rfl))) (notFace_of_selects (args := #[]) (mvT hZ (hw _ (List.mem_of_getElem? (i := 45) rfl)))) (mvT hZ (hw _ (List.mem_of_getElem? (i := 45) rfl))) (mvT hZ (hw _ (List.mem_of_getElem? (i := 44) rfl))) (by decide) (own_back (W := 1) (own_phR l Z a0 hw [] u9 x11 h35 n0 O35 P_u9) hZ (hw _ (List.mem_of_getElem? (i := 46) rfl)) (hw _ (List.mem_of_getElem? (i := 3) rfl)) (by decide) (by decide)) q75a q75c (g := (mkF m 142 #[.val (.int p1), .val (.ref b5), .val (.ref u9), .val (.int (1 : Int32)), .val (.int (1 : Int32))] [(.ref u9), (.int (1 : Int32))])) rfl (by rw [hml]; rfl) (Steps.refl _) (argsL := []) (rest := [(.int (1 : Int32))]) (lenOf own_pd1 rfl) rfl (by show 2 * 0 + _ ≤ _; exact Nat.le_of_eq rfl) (hb hby at_142) (fun _ _ => ⟨rfl, e74, (by decide : 1 + 0 ≤ _), (by decide : 15 + 0 ≤ _)⟩)
    dsimp only [Pt.U, Pt.locs, Pt.cells, Pt.slots] at X75 l75 y75 z75 st75 hQ75
    subst l75 y75 z75
    obtain ⟨rfl, N75q, e75⟩ := hQ75
    have N75 := Fr.app N73 N75q
    refine own_by (fun _ k => st75.trans k) ?_
    show own_End p e below _ (T75.setTop (mkF m 145 #[.val (.int p1), .val (.ref b5), .val (.ref u9), .val (.int (1 : Int32)), .val (.int (1 : Int32))] [(.ref x11), (.int (1 : Int32))]))
    refine own_by (fun _ k => XS.ifnullNo X75.here hx rfl (hb hby at_145) rfl k) ?_
    show own_End p e below _ (T75.setTop (mkF m 148 #[.val (.int p1), .val (.ref b5), .val (.ref u9), .val (.int (1 : Int32)), .val (.int (1 : Int32))] [(.int (1 : Int32))]))
    refine own_by (fun _ k => XS.iconst X75.here hx rfl (hb hby at_148) k) ?_
    show own_End p e below _ (T75.setTop (mkF m 149 #[.val (.int p1), .val (.ref b5), .val (.ref u9), .val (.int (1 : Int32)), .val (.int (1 : Int32))] [(.int (1 : Int32)), (.int (1 : Int32))]))
    refine own_by (fun _ k => XS.goto X75.here hx rfl (pc0 := 149) (pc' := 153) rfl (hb hby at_149) (by decide) (by decide) k) ?_
    show own_End p e below _ (T75.setTop (mkF m 153 #[.val (.int p1), .val (.ref b5), .val (.ref u9), .val (.int (1 : Int32)), .val (.int (1 : Int32))] [(.int (1 : Int32)), (.int (1 : Int32))]))
    refine own_by (fun _ k => XS.icmpNo X75.here hx rfl (hb hby at_153) rfl (teq (by decide)).2 k) ?_
    show own_End p e below _ (T75.setTop (mkF m 156 #[.val (.int p1), .val (.ref b5), .val (.ref u9), .val (.int (1 : Int32)), .val (.int (1 : Int32))] []))
    refine own_by (fun _ k => XS.iconst X75.here hx rfl (hb hby at_156) k) ?_
    show own_End p e below _ (T75.setTop (mkF m 157 #[.val (.int p1), .val (.ref b5), .val (.ref u9), .val (.int (1 : Int32)), .val (.int (1 : Int32))] [(.int (1 : Int32))]))
    refine own_by (fun _ k => XS.goto X75.here hx rfl (pc0 := 157) (pc' := 161) rfl (hb hby at_157) (by decide) (by decide) k) ?_
    show own_End p e below _ (T75.setTop (mkF m 161 #[.val (.int p1), .val (.ref b5), .val (.ref u9), .val (.int (1 : Int32)), .val (.int (1 : Int32))] [(.int (1 : Int32))]))
    obtain ⟨fs, hr, hrun, hended, hW, hsame⟩ := X75.leave (v := (some (.int (1 : Int32)))) (fun h => by rw [Bd.returns] at h; cases h)
    refine ⟨_, _, retN X75 hx (t := .boolean) Bd.returns (by simp) (hb hby at_161) hr, hrun, hended, _, _, rfl, ?_, ⟨_, rfl⟩, hW, hsame.mono (by decide) (by decide)⟩
    exact ⟨rfl, N75⟩
  · -- case 10
    rw [hq]
    show own_End p e below _ (T35.setTop (mkF m 113 #[.val (.int p1), .val (.ref b5), .unset, .unset, .unset] [(.int (10 : Int32)), (.ref b5)]))
    obtain ⟨cl76, Ar76, -, S76, M76, Hs76, -⟩ := V35_b5
    have hin76 : ¬ ((10 : Int32) < 0 ∨ cl76.slots.size ≤ ((10 : Int32)).toNatClampNeg) := inb_of S76 ⟨by decide, by decide⟩
    refine own_by (fun _ k => X35.aaload hx (j := (10 : Int32)) (v := (.ref u10)) (by rw [e35]; exact Ar76.1) (State.isArrayOf_alike hZ.alike Ar76.2.1) rfl Ar76.2.2 hin76 (Has.at Hs76 hin76 rfl) (g := (mkF m 113 #[.val (.int p1), .val (.ref b5), .unset, .unset, .unset] [(.int (10 : Int32)), (.ref b5)])) rfl rfl (hb hby at_113) _ k) ?_
    show own_End p e below _ (T35.setTop (mkF m 114 #[.val (.int p1), .val (.ref b5), .unset, .unset, .unset] [(.ref u10)]))
    refine own_by (fun _ k => XS.astoreN X35.here hx rfl (hb hby at_114) rfl rfl (l' := #[.val (.int p1), .val (.ref b5), .val (.ref u10), .unset, .unset]) rfl k) ?_
    show own_End p e below _ (T35.setTop (mkF m 115 #[.val (.int p1), .val (.ref b5), .val (.ref u10), .unset, .unset] []))
    refine own_by (fun _ k => XS.aloadN X35.here hx rfl (hb hby at_115) rfl rfl k) ?_
    show own_End p e below _ (T35.setTop (mkF m 116 #[.val (.int p1), .val (.ref b5), .val (.ref u10), .unset, .unset] [(.ref u10)]))
    obtain ⟨cq77, kq77, q77a, q77b, q77c⟩ := isOf hZ e35 (E_u10.ext O35)
    obtain ⟨_, _, ⟨T77, L77, k77, n77⟩, -, X77, ⟨Lc77, hQ77, l77, y77, z77⟩, st77⟩ := X35.virtualBack hx (y := (⟨"com/example/linkwright/linkwright/program/Option", "takesValue", "()Z"⟩ : MethodName)) (z := (⟨"com/example/linkwright/linkwright/program/Option", "takesValue", "()Z"⟩ : MethodName)) hown (mvT hZ (hw _ (List.mem_of_getElem? (i := 35) rfl))) (mvT hZ (hw _ (List.mem_of_getElem? (i := 36) rfl))) (notFace_of_selects (args := #[]) (mvT hZ (hw _ (List.mem_of_getElem? (i := 38) rfl)))) (mvT hZ (hw _ (List.mem_of_getElem? (i := 38) rfl))) (mvT hZ (hw _ (List.mem_of_getElem? (i := 37) rfl))) (by decide) (own_back (W := 0) (own_tkR l Z a0 hw [] u10 x11 h35 n0 O35 P_u10) hZ (hw _ (List.mem_of_getElem? (i := 39) rfl)) (hw _ (List.mem_of_getElem? (i := 3) rfl)) (by decide) (by decide)) q77a q77c (g := (mkF m 116 #[.val (.int p1), .val (.ref b5), .val (.ref u10), .unset, .unset] [(.ref u10)])) rfl (by rw [hml]; rfl) (Steps.refl _) (argsL := []) (rest := []) (lenOf own_pd0 rfl) rfl (by show 2 * 0 + _ ≤ _; exact Nat.le_of_eq rfl) (hb hby at_116) (fun _ _ => ⟨rfl, e35, (by decide : 1 + 0 ≤ _), (by decide : 15 + 0 ≤ _)⟩)
    dsimp only [Pt.U, Pt.locs, Pt.cells, Pt.slots] at X77 l77 y77 z77 st77 hQ77
    subst l77 y77 z77
    obtain ⟨rfl, N77q, e77⟩ := hQ77
    have N77 := Fr.app N35 N77q
    refine own_by (fun _ k => st77.trans k) ?_
    show own_End p e below _ (T77.setTop (mkF m 119 #[.val (.int p1), .val (.ref b5), .val (.ref u10), .unset, .unset] [(.int (1 : Int32))]))
    refine own_by (fun _ k => XS.istoreN X77.here hx rfl (hb hby at_119) rfl (l' := #[.val (.int p1), .val (.ref b5), .val (.ref u10), .val (.int (1 : Int32)), .unset]) rfl k) ?_
    show own_End p e below _ (T77.setTop (mkF m 120 #[.val (.int p1), .val (.ref b5), .val (.ref u10), .val (.int (1 : Int32)), .unset] []))
    refine own_by (fun _ k => XS.aloadN X77.here hx rfl (hb hby at_120) rfl rfl k) ?_
    show own_End p e below _ (T77.setTop (mkF m 121 #[.val (.int p1), .val (.ref b5), .val (.ref u10), .val (.int (1 : Int32)), .unset] [(.ref u10)]))
    obtain ⟨T78, X78, e78, st78⟩ := getS2 X77 hx hZ hown (host := "") (Or.inl (hw _ (List.mem_of_getElem? (i := 16) rfl))) Via.refl e77 (S_u6.ext O35) (g := (mkF m 121 #[.val (.int p1), .val (.ref b5), .val (.ref u10), .val (.int (1 : Int32)), .unset] [(.ref u10)])) rfl (hb hby at_121)
    refine own_by st78 ?_
    show own_End p e below _ (T78.setTop (mkF m 124 #[.val (.int p1), .val (.ref b5), .val (.ref u10), .val (.int (1 : Int32)), .unset] [(.ref u6), (.ref u10)]))
    refine own_by (fun _ k => Jvm.RoadKit.acmp (g := (mkF m 124 #[.val (.int p1), .val (.ref b5), .val (.ref u10), .val (.int (1 : Int32)), .unset] [(.ref u6), (.ref u10)])) X78 hx rfl rfl rfl (pc0 := 124) (pc' := 127) (same := false) rfl (hb hby at_124) rfl (decide_eq_false fun q => (F_u10.ne F_u6 (by decide)) (Value.ref.inj q)) (by decide) (by decide) k) ?_
    show own_End p e below _ (T78.setTop (mkF m 127 #[.val (.int p1), .val (.ref b5), .val (.ref u10), .val (.int (1 : Int32)), .unset] []))
    refine own_by (fun _ k => XS.iconst X78.here hx rfl (hb hby at_127) k) ?_
    show own_End p e below _ (T78.setTop (mkF m 128 #[.val (.int p1), .val (.ref b5), .val (.ref u10), .val (.int (1 : Int32)), .unset] [(.int (1 : Int32))]))
    refine own_by (fun _ k => XS.goto X78.here hx rfl (pc0 := 128) (pc' := 132) rfl (hb hby at_128) (by decide) (by decide) k) ?_
    show own_End p e below _ (T78.setTop (mkF m 132 #[.val (.int p1), .val (.ref b5), .val (.ref u10), .val (.int (1 : Int32)), .unset] [(.int (1 : Int32))]))
    refine own_by (fun _ k => XS.istore X78.here hx rfl (hb hby at_132) rfl (l' := #[.val (.int p1), .val (.ref b5), .val (.ref u10), .val (.int (1 : Int32)), .val (.int (1 : Int32))]) rfl k) ?_
    show own_End p e below _ (T78.setTop (mkF m 134 #[.val (.int p1), .val (.ref b5), .val (.ref u10), .val (.int (1 : Int32)), .val (.int (1 : Int32))] []))
    refine own_by (fun _ k => XS.iloadN X78.here hx rfl (hb hby at_134) rfl k) ?_
    show own_End p e below _ (T78.setTop (mkF m 135 #[.val (.int p1), .val (.ref b5), .val (.ref u10), .val (.int (1 : Int32)), .val (.int (1 : Int32))] [(.int (1 : Int32))]))
    refine own_by (fun _ k => XS.iload X78.here hx rfl (hb hby at_135) rfl k) ?_
    show own_End p e below _ (T78.setTop (mkF m 137 #[.val (.int p1), .val (.ref b5), .val (.ref u10), .val (.int (1 : Int32)), .val (.int (1 : Int32))] [(.int (1 : Int32)), (.int (1 : Int32))]))
    refine own_by (fun _ k => XS.icmpNo X78.here hx rfl (hb hby at_137) rfl (teq (by decide)).2 k) ?_
    show own_End p e below _ (T78.setTop (mkF m 140 #[.val (.int p1), .val (.ref b5), .val (.ref u10), .val (.int (1 : Int32)), .val (.int (1 : Int32))] []))
    refine own_by (fun _ k => XS.iloadN X78.here hx rfl (hb hby at_140) rfl k) ?_
    show own_End p e below _ (T78.setTop (mkF m 141 #[.val (.int p1), .val (.ref b5), .val (.ref u10), .val (.int (1 : Int32)), .val (.int (1 : Int32))] [(.int (1 : Int32))]))
    refine own_by (fun _ k => XS.aloadN X78.here hx rfl (hb hby at_141) rfl rfl k) ?_
    show own_End p e below _ (T78.setTop (mkF m 142 #[.val (.int p1), .val (.ref b5), .val (.ref u10), .val (.int (1 : Int32)), .val (.int (1 : Int32))] [(.ref u10), (.int (1 : Int32))]))
    obtain ⟨cq79, kq79, q79a, q79b, q79c⟩ := isOf hZ e78 (E_u10.ext O35)
    obtain ⟨_, _, ⟨T79, L79, k79, n79⟩, -, X79, ⟨Lc79, hQ79, l79, y79, z79⟩, st79⟩ := X78.virtualBack hx (y := (⟨"com/example/linkwright/linkwright/program/Option", "placeholder", "()Ljava/lang/String;"⟩ : MethodName)) (z := (⟨"com/example/linkwright/linkwright/program/Option", "placeholder", "()Ljava/lang/String;"⟩ : MethodName)) hown (mvT hZ (hw _ (List.mem_of_getElem? (i := 42) rfl))) (mvT hZ (hw _ (List.mem_of_getElem? (i := 43) rfl))) (notFace_of_selects (args := #[]) (mvT hZ (hw _ (List.mem_of_getElem? (i := 45) rfl)))) (mvT hZ (hw _ (List.mem_of_getElem? (i := 45) rfl))) (mvT hZ (hw _ (List.mem_of_getElem? (i := 44) rfl))) (by decide) (own_back (W := 1) (own_phR l Z a0 hw [] u10 x11 h35 n0 O35 P_u10) hZ (hw _ (List.mem_of_getElem? (i := 46) rfl)) (hw _ (List.mem_of_getElem? (i := 3) rfl)) (by decide) (by decide)) q79a q79c (g := (mkF m 142 #[.val (.int p1), .val (.ref b5), .val (.ref u10), .val (.int (1 : Int32)), .val (.int (1 : Int32))] [(.ref u10), (.int (1 : Int32))])) rfl (by rw [hml]; rfl) (Steps.refl _) (argsL := []) (rest := [(.int (1 : Int32))]) (lenOf own_pd1 rfl) rfl (by show 2 * 0 + _ ≤ _; exact Nat.le_of_eq rfl) (hb hby at_142) (fun _ _ => ⟨rfl, e78, (by decide : 1 + 0 ≤ _), (by decide : 15 + 0 ≤ _)⟩)
    dsimp only [Pt.U, Pt.locs, Pt.cells, Pt.slots] at X79 l79 y79 z79 st79 hQ79
    subst l79 y79 z79
    obtain ⟨rfl, N79q, e79⟩ := hQ79
    have N79 := Fr.app N77 N79q
    refine own_by (fun _ k => st79.trans k) ?_
    show own_End p e below _ (T79.setTop (mkF m 145 #[.val (.int p1), .val (.ref b5), .val (.ref u10), .val (.int (1 : Int32)), .val (.int (1 : Int32))] [(.ref x11), (.int (1 : Int32))]))
    refine own_by (fun _ k => XS.ifnullNo X79.here hx rfl (hb hby at_145) rfl k) ?_
    show own_End p e below _ (T79.setTop (mkF m 148 #[.val (.int p1), .val (.ref b5), .val (.ref u10), .val (.int (1 : Int32)), .val (.int (1 : Int32))] [(.int (1 : Int32))]))
    refine own_by (fun _ k => XS.iconst X79.here hx rfl (hb hby at_148) k) ?_
    show own_End p e below _ (T79.setTop (mkF m 149 #[.val (.int p1), .val (.ref b5), .val (.ref u10), .val (.int (1 : Int32)), .val (.int (1 : Int32))] [(.int (1 : Int32)), (.int (1 : Int32))]))
    refine own_by (fun _ k => XS.goto X79.here hx rfl (pc0 := 149) (pc' := 153) rfl (hb hby at_149) (by decide) (by decide) k) ?_
    show own_End p e below _ (T79.setTop (mkF m 153 #[.val (.int p1), .val (.ref b5), .val (.ref u10), .val (.int (1 : Int32)), .val (.int (1 : Int32))] [(.int (1 : Int32)), (.int (1 : Int32))]))
    refine own_by (fun _ k => XS.icmpNo X79.here hx rfl (hb hby at_153) rfl (teq (by decide)).2 k) ?_
    show own_End p e below _ (T79.setTop (mkF m 156 #[.val (.int p1), .val (.ref b5), .val (.ref u10), .val (.int (1 : Int32)), .val (.int (1 : Int32))] []))
    refine own_by (fun _ k => XS.iconst X79.here hx rfl (hb hby at_156) k) ?_
    show own_End p e below _ (T79.setTop (mkF m 157 #[.val (.int p1), .val (.ref b5), .val (.ref u10), .val (.int (1 : Int32)), .val (.int (1 : Int32))] [(.int (1 : Int32))]))
    refine own_by (fun _ k => XS.goto X79.here hx rfl (pc0 := 157) (pc' := 161) rfl (hb hby at_157) (by decide) (by decide) k) ?_
    show own_End p e below _ (T79.setTop (mkF m 161 #[.val (.int p1), .val (.ref b5), .val (.ref u10), .val (.int (1 : Int32)), .val (.int (1 : Int32))] [(.int (1 : Int32))]))
    obtain ⟨fs, hr, hrun, hended, hW, hsame⟩ := X79.leave (v := (some (.int (1 : Int32)))) (fun h => by rw [Bd.returns] at h; cases h)
    refine ⟨_, _, retN X79 hx (t := .boolean) Bd.returns (by simp) (hb hby at_161) hr, hrun, hended, _, _, rfl, ?_, ⟨_, rfl⟩, hW, hsame.mono (by decide) (by decide)⟩
    exact ⟨rfl, N79⟩
  · -- case 11
    rw [hq]
    show own_End p e below _ (T35.setTop (mkF m 113 #[.val (.int p1), .val (.ref b5), .unset, .unset, .unset] [(.int (11 : Int32)), (.ref b5)]))
    obtain ⟨cl80, Ar80, -, S80, M80, Hs80, -⟩ := V35_b5
    have hin80 : ¬ ((11 : Int32) < 0 ∨ cl80.slots.size ≤ ((11 : Int32)).toNatClampNeg) := inb_of S80 ⟨by decide, by decide⟩
    refine own_by (fun _ k => X35.aaload hx (j := (11 : Int32)) (v := (.ref u11)) (by rw [e35]; exact Ar80.1) (State.isArrayOf_alike hZ.alike Ar80.2.1) rfl Ar80.2.2 hin80 (Has.at Hs80 hin80 rfl) (g := (mkF m 113 #[.val (.int p1), .val (.ref b5), .unset, .unset, .unset] [(.int (11 : Int32)), (.ref b5)])) rfl rfl (hb hby at_113) _ k) ?_
    show own_End p e below _ (T35.setTop (mkF m 114 #[.val (.int p1), .val (.ref b5), .unset, .unset, .unset] [(.ref u11)]))
    refine own_by (fun _ k => XS.astoreN X35.here hx rfl (hb hby at_114) rfl rfl (l' := #[.val (.int p1), .val (.ref b5), .val (.ref u11), .unset, .unset]) rfl k) ?_
    show own_End p e below _ (T35.setTop (mkF m 115 #[.val (.int p1), .val (.ref b5), .val (.ref u11), .unset, .unset] []))
    refine own_by (fun _ k => XS.aloadN X35.here hx rfl (hb hby at_115) rfl rfl k) ?_
    show own_End p e below _ (T35.setTop (mkF m 116 #[.val (.int p1), .val (.ref b5), .val (.ref u11), .unset, .unset] [(.ref u11)]))
    obtain ⟨cq81, kq81, q81a, q81b, q81c⟩ := isOf hZ e35 (E_u11.ext O35)
    obtain ⟨_, _, ⟨T81, L81, k81, n81⟩, -, X81, ⟨Lc81, hQ81, l81, y81, z81⟩, st81⟩ := X35.virtualBack hx (y := (⟨"com/example/linkwright/linkwright/program/Option", "takesValue", "()Z"⟩ : MethodName)) (z := (⟨"com/example/linkwright/linkwright/program/Option", "takesValue", "()Z"⟩ : MethodName)) hown (mvT hZ (hw _ (List.mem_of_getElem? (i := 35) rfl))) (mvT hZ (hw _ (List.mem_of_getElem? (i := 36) rfl))) (notFace_of_selects (args := #[]) (mvT hZ (hw _ (List.mem_of_getElem? (i := 38) rfl)))) (mvT hZ (hw _ (List.mem_of_getElem? (i := 38) rfl))) (mvT hZ (hw _ (List.mem_of_getElem? (i := 37) rfl))) (by decide) (own_back (W := 0) (own_tkR l Z a0 hw [] u11 x11 h35 n0 O35 P_u11) hZ (hw _ (List.mem_of_getElem? (i := 39) rfl)) (hw _ (List.mem_of_getElem? (i := 3) rfl)) (by decide) (by decide)) q81a q81c (g := (mkF m 116 #[.val (.int p1), .val (.ref b5), .val (.ref u11), .unset, .unset] [(.ref u11)])) rfl (by rw [hml]; rfl) (Steps.refl _) (argsL := []) (rest := []) (lenOf own_pd0 rfl) rfl (by show 2 * 0 + _ ≤ _; exact Nat.le_of_eq rfl) (hb hby at_116) (fun _ _ => ⟨rfl, e35, (by decide : 1 + 0 ≤ _), (by decide : 15 + 0 ≤ _)⟩)
    dsimp only [Pt.U, Pt.locs, Pt.cells, Pt.slots] at X81 l81 y81 z81 st81 hQ81
    subst l81 y81 z81
    obtain ⟨rfl, N81q, e81⟩ := hQ81
    have N81 := Fr.app N35 N81q
    refine own_by (fun _ k => st81.trans k) ?_
    show own_End p e below _ (T81.setTop (mkF m 119 #[.val (.int p1), .val (.ref b5), .val (.ref u11), .unset, .unset] [(.int (1 : Int32))]))
    refine own_by (fun _ k => XS.istoreN X81.here hx rfl (hb hby at_119) rfl (l' := #[.val (.int p1), .val (.ref b5), .val (.ref u11), .val (.int (1 : Int32)), .unset]) rfl k) ?_
    show own_End p e below _ (T81.setTop (mkF m 120 #[.val (.int p1), .val (.ref b5), .val (.ref u11), .val (.int (1 : Int32)), .unset] []))
    refine own_by (fun _ k => XS.aloadN X81.here hx rfl (hb hby at_120) rfl rfl k) ?_
    show own_End p e below _ (T81.setTop (mkF m 121 #[.val (.int p1), .val (.ref b5), .val (.ref u11), .val (.int (1 : Int32)), .unset] [(.ref u11)]))
    obtain ⟨T82, X82, e82, st82⟩ := getS2 X81 hx hZ hown (host := "") (Or.inl (hw _ (List.mem_of_getElem? (i := 16) rfl))) Via.refl e81 (S_u6.ext O35) (g := (mkF m 121 #[.val (.int p1), .val (.ref b5), .val (.ref u11), .val (.int (1 : Int32)), .unset] [(.ref u11)])) rfl (hb hby at_121)
    refine own_by st82 ?_
    show own_End p e below _ (T82.setTop (mkF m 124 #[.val (.int p1), .val (.ref b5), .val (.ref u11), .val (.int (1 : Int32)), .unset] [(.ref u6), (.ref u11)]))
    refine own_by (fun _ k => Jvm.RoadKit.acmp (g := (mkF m 124 #[.val (.int p1), .val (.ref b5), .val (.ref u11), .val (.int (1 : Int32)), .unset] [(.ref u6), (.ref u11)])) X82 hx rfl rfl rfl (pc0 := 124) (pc' := 127) (same := false) rfl (hb hby at_124) rfl (decide_eq_false fun q => (F_u11.ne F_u6 (by decide)) (Value.ref.inj q)) (by decide) (by decide) k) ?_
    show own_End p e below _ (T82.setTop (mkF m 127 #[.val (.int p1), .val (.ref b5), .val (.ref u11), .val (.int (1 : Int32)), .unset] []))
    refine own_by (fun _ k => XS.iconst X82.here hx rfl (hb hby at_127) k) ?_
    show own_End p e below _ (T82.setTop (mkF m 128 #[.val (.int p1), .val (.ref b5), .val (.ref u11), .val (.int (1 : Int32)), .unset] [(.int (1 : Int32))]))
    refine own_by (fun _ k => XS.goto X82.here hx rfl (pc0 := 128) (pc' := 132) rfl (hb hby at_128) (by decide) (by decide) k) ?_
    show own_End p e below _ (T82.setTop (mkF m 132 #[.val (.int p1), .val (.ref b5), .val (.ref u11), .val (.int (1 : Int32)), .unset] [(.int (1 : Int32))]))
    refine own_by (fun _ k => XS.istore X82.here hx rfl (hb hby at_132) rfl (l' := #[.val (.int p1), .val (.ref b5), .val (.ref u11), .val (.int (1 : Int32)), .val (.int (1 : Int32))]) rfl k) ?_
    show own_End p e below _ (T82.setTop (mkF m 134 #[.val (.int p1), .val (.ref b5), .val (.ref u11), .val (.int (1 : Int32)), .val (.int (1 : Int32))] []))
    refine own_by (fun _ k => XS.iloadN X82.here hx rfl (hb hby at_134) rfl k) ?_
    show own_End p e below _ (T82.setTop (mkF m 135 #[.val (.int p1), .val (.ref b5), .val (.ref u11), .val (.int (1 : Int32)), .val (.int (1 : Int32))] [(.int (1 : Int32))]))
    refine own_by (fun _ k => XS.iload X82.here hx rfl (hb hby at_135) rfl k) ?_
    show own_End p e below _ (T82.setTop (mkF m 137 #[.val (.int p1), .val (.ref b5), .val (.ref u11), .val (.int (1 : Int32)), .val (.int (1 : Int32))] [(.int (1 : Int32)), (.int (1 : Int32))]))
    refine own_by (fun _ k => XS.icmpNo X82.here hx rfl (hb hby at_137) rfl (teq (by decide)).2 k) ?_
    show own_End p e below _ (T82.setTop (mkF m 140 #[.val (.int p1), .val (.ref b5), .val (.ref u11), .val (.int (1 : Int32)), .val (.int (1 : Int32))] []))
    refine own_by (fun _ k => XS.iloadN X82.here hx rfl (hb hby at_140) rfl k) ?_
    show own_End p e below _ (T82.setTop (mkF m 141 #[.val (.int p1), .val (.ref b5), .val (.ref u11), .val (.int (1 : Int32)), .val (.int (1 : Int32))] [(.int (1 : Int32))]))
    refine own_by (fun _ k => XS.aloadN X82.here hx rfl (hb hby at_141) rfl rfl k) ?_
    show own_End p e below _ (T82.setTop (mkF m 142 #[.val (.int p1), .val (.ref b5), .val (.ref u11), .val (.int (1 : Int32)), .val (.int (1 : Int32))] [(.ref u11), (.int (1 : Int32))]))
    obtain ⟨cq83, kq83, q83a, q83b, q83c⟩ := isOf hZ e82 (E_u11.ext O35)
    obtain ⟨_, _, ⟨T83, L83, k83, n83⟩, -, X83, ⟨Lc83, hQ83, l83, y83, z83⟩, st83⟩ := X82.virtualBack hx (y := (⟨"com/example/linkwright/linkwright/program/Option", "placeholder", "()Ljava/lang/String;"⟩ : MethodName)) (z := (⟨"com/example/linkwright/linkwright/program/Option", "placeholder", "()Ljava/lang/String;"⟩ : MethodName)) hown (mvT hZ (hw _ (List.mem_of_getElem? (i := 42) rfl))) (mvT hZ (hw _ (List.mem_of_getElem? (i := 43) rfl))) (notFace_of_selects (args := #[]) (mvT hZ (hw _ (List.mem_of_getElem? (i := 45) rfl)))) (mvT hZ (hw _ (List.mem_of_getElem? (i := 45) rfl))) (mvT hZ (hw _ (List.mem_of_getElem? (i := 44) rfl))) (by decide) (own_back (W := 1) (own_phR l Z a0 hw [] u11 x11 h35 n0 O35 P_u11) hZ (hw _ (List.mem_of_getElem? (i := 46) rfl)) (hw _ (List.mem_of_getElem? (i := 3) rfl)) (by decide) (by decide)) q83a q83c (g := (mkF m 142 #[.val (.int p1), .val (.ref b5), .val (.ref u11), .val (.int (1 : Int32)), .val (.int (1 : Int32))] [(.ref u11), (.int (1 : Int32))])) rfl (by rw [hml]; rfl) (Steps.refl _) (argsL := []) (rest := [(.int (1 : Int32))]) (lenOf own_pd1 rfl) rfl (by show 2 * 0 + _ ≤ _; exact Nat.le_of_eq rfl) (hb hby at_142) (fun _ _ => ⟨rfl, e82, (by decide : 1 + 0 ≤ _), (by decide : 15 + 0 ≤ _)⟩)
    dsimp only [Pt.U, Pt.locs, Pt.cells, Pt.slots] at X83 l83 y83 z83 st83 hQ83
    subst l83 y83 z83
    obtain ⟨rfl, N83q, e83⟩ := hQ83
    have N83 := Fr.app N81 N83q
    refine own_by (fun _ k => st83.trans k) ?_
    show own_End p e below _ (T83.setTop (mkF m 145 #[.val (.int p1), .val (.ref b5), .val (.ref u11), .val (.int (1 : Int32)), .val (.int (1 : Int32))] [(.ref x11), (.int (1 : Int32))]))
    refine own_by (fun _ k => XS.ifnullNo X83.here hx rfl (hb hby at_145) rfl k) ?_
    show own_End p e below _ (T83.setTop (mkF m 148 #[.val (.int p1), .val (.ref b5), .val (.ref u11), .val (.int (1 : Int32)), .val (.int (1 : Int32))] [(.int (1 : Int32))]))
    refine own_by (fun _ k => XS.iconst X83.here hx rfl (hb hby at_148) k) ?_
    show own_End p e below _ (T83.setTop (mkF m 149 #[.val (.int p1), .val (.ref b5), .val (.ref u11), .val (.int (1 : Int32)), .val (.int (1 : Int32))] [(.int (1 : Int32)), (.int (1 : Int32))]))
    refine own_by (fun _ k => XS.goto X83.here hx rfl (pc0 := 149) (pc' := 153) rfl (hb hby at_149) (by decide) (by decide) k) ?_
    show own_End p e below _ (T83.setTop (mkF m 153 #[.val (.int p1), .val (.ref b5), .val (.ref u11), .val (.int (1 : Int32)), .val (.int (1 : Int32))] [(.int (1 : Int32)), (.int (1 : Int32))]))
    refine own_by (fun _ k => XS.icmpNo X83.here hx rfl (hb hby at_153) rfl (teq (by decide)).2 k) ?_
    show own_End p e below _ (T83.setTop (mkF m 156 #[.val (.int p1), .val (.ref b5), .val (.ref u11), .val (.int (1 : Int32)), .val (.int (1 : Int32))] []))
    refine own_by (fun _ k => XS.iconst X83.here hx rfl (hb hby at_156) k) ?_
    show own_End p e below _ (T83.setTop (mkF m 157 #[.val (.int p1), .val (.ref b5), .val (.ref u11), .val (.int (1 : Int32)), .val (.int (1 : Int32))] [(.int (1 : Int32))]))
    refine own_by (fun _ k => XS.goto X83.here hx rfl (pc0 := 157) (pc' := 161) rfl (hb hby at_157) (by decide) (by decide) k) ?_
    show own_End p e below _ (T83.setTop (mkF m 161 #[.val (.int p1), .val (.ref b5), .val (.ref u11), .val (.int (1 : Int32)), .val (.int (1 : Int32))] [(.int (1 : Int32))]))
    obtain ⟨fs, hr, hrun, hended, hW, hsame⟩ := X83.leave (v := (some (.int (1 : Int32)))) (fun h => by rw [Bd.returns] at h; cases h)
    refine ⟨_, _, retN X83 hx (t := .boolean) Bd.returns (by simp) (hb hby at_161) hr, hrun, hended, _, _, rfl, ?_, ⟨_, rfl⟩, hW, hsame.mono (by decide) (by decide)⟩
    exact ⟨rfl, N83⟩
  · -- case 12
    rw [hq]
    show own_End p e below _ (T35.setTop (mkF m 113 #[.val (.int p1), .val (.ref b5), .unset, .unset, .unset] [(.int (12 : Int32)), (.ref b5)]))
    obtain ⟨cl84, Ar84, -, S84, M84, Hs84, -⟩ := V35_b5
    have hin84 : ¬ ((12 : Int32) < 0 ∨ cl84.slots.size ≤ ((12 : Int32)).toNatClampNeg) := inb_of S84 ⟨by decide, by decide⟩
    refine own_by (fun _ k => X35.aaload hx (j := (12 : Int32)) (v := (.ref u12)) (by rw [e35]; exact Ar84.1) (State.isArrayOf_alike hZ.alike Ar84.2.1) rfl Ar84.2.2 hin84 (Has.at Hs84 hin84 rfl) (g := (mkF m 113 #[.val (.int p1), .val (.ref b5), .unset, .unset, .unset] [(.int (12 : Int32)), (.ref b5)])) rfl rfl (hb hby at_113) _ k) ?_
    show own_End p e below _ (T35.setTop (mkF m 114 #[.val (.int p1), .val (.ref b5), .unset, .unset, .unset] [(.ref u12)]))
    refine own_by (fun _ k => XS.astoreN X35.here hx rfl (hb hby at_114) rfl rfl (l' := #[.val (.int p1), .val (.ref b5), .val (.ref u12), .unset, .unset]) rfl k) ?_
    show own_End p e below _ (T35.setTop (mkF m 115 #[.val (.int p1), .val (.ref b5), .val (.ref u12), .unset, .unset] []))
    refine own_by (fun _ k => XS.aloadN X35.here hx rfl (hb hby at_115) rfl rfl k) ?_
    show own_End p e below _ (T35.setTop (mkF m 116 #[.val (.int p1), .val (.ref b5), .val (.ref u12), .unset, .unset] [(.ref u12)]))
    obtain ⟨cq85, kq85, q85a, q85b, q85c⟩ := isOf hZ e35 (E_u12.ext O35)
    obtain ⟨_, _, ⟨T85, L85, k85, n85⟩, -, X85, ⟨Lc85, hQ85, l85, y85, z85⟩, st85⟩ := X35.virtualBack hx (y := (⟨"com/example/linkwright/linkwright/program/Option", "takesValue", "()Z"⟩ : MethodName)) (z := (⟨"com/example/linkwright/linkwright/program/Option", "takesValue", "()Z"⟩ : MethodName)) hown (mvT hZ (hw _ (List.mem_of_getElem? (i := 35) rfl))) (mvT hZ (hw _ (List.mem_of_getElem? (i := 36) rfl))) (notFace_of_selects (args := #[]) (mvT hZ (hw _ (List.mem_of_getElem? (i := 38) rfl)))) (mvT hZ (hw _ (List.mem_of_getElem? (i := 38) rfl))) (mvT hZ (hw _ (List.mem_of_getElem? (i := 37) rfl))) (by decide) (own_back (W := 0) (own_tkR l Z a0 hw [] u12 x11 h35 n0 O35 P_u12) hZ (hw _ (List.mem_of_getElem? (i := 39) rfl)) (hw _ (List.mem_of_getElem? (i := 3) rfl)) (by decide) (by decide)) q85a q85c (g := (mkF m 116 #[.val (.int p1), .val (.ref b5), .val (.ref u12), .unset, .unset] [(.ref u12)])) rfl (by rw [hml]; rfl) (Steps.refl _) (argsL := []) (rest := []) (lenOf own_pd0 rfl) rfl (by show 2 * 0 + _ ≤ _; exact Nat.le_of_eq rfl) (hb hby at_116) (fun _ _ => ⟨rfl, e35, (by decide : 1 + 0 ≤ _), (by decide : 15 + 0 ≤ _)⟩)
    dsimp only [Pt.U, Pt.locs, Pt.cells, Pt.slots] at X85 l85 y85 z85 st85 hQ85
    subst l85 y85 z85
    obtain ⟨rfl, N85q, e85⟩ := hQ85
    have N85 := Fr.app N35 N85q
    refine own_by (fun _ k => st85.trans k) ?_
    show own_End p e below _ (T85.setTop (mkF m 119 #[.val (.int p1), .val (.ref b5), .val (.ref u12), .unset, .unset] [(.int (1 : Int32))]))
    refine own_by (fun _ k => XS.istoreN X85.here hx rfl (hb hby at_119) rfl (l' := #[.val (.int p1), .val (.ref b5), .val (.ref u12), .val (.int (1 : Int32)), .unset]) rfl k) ?_
    show own_End p e below _ (T85.setTop (mkF m 120 #[.val (.int p1), .val (.ref b5), .val (.ref u12), .val (.int (1 : Int32)), .unset] []))
    refine own_by (fun _ k => XS.aloadN X85.here hx rfl (hb hby at_120) rfl rfl k) ?_
    show own_End p e below _ (T85.setTop (mkF m 121 #[.val (.int p1), .val (.ref b5), .val (.ref u12), .val (.int (1 : Int32)), .unset] [(.ref u12)]))
    obtain ⟨T86, X86, e86, st86⟩ := getS2 X85 hx hZ hown (host := "") (Or.inl (hw _ (List.mem_of_getElem? (i := 16) rfl))) Via.refl e85 (S_u6.ext O35) (g := (mkF m 121 #[.val (.int p1), .val (.ref b5), .val (.ref u12), .val (.int (1 : Int32)), .unset] [(.ref u12)])) rfl (hb hby at_121)
    refine own_by st86 ?_
    show own_End p e below _ (T86.setTop (mkF m 124 #[.val (.int p1), .val (.ref b5), .val (.ref u12), .val (.int (1 : Int32)), .unset] [(.ref u6), (.ref u12)]))
    refine own_by (fun _ k => Jvm.RoadKit.acmp (g := (mkF m 124 #[.val (.int p1), .val (.ref b5), .val (.ref u12), .val (.int (1 : Int32)), .unset] [(.ref u6), (.ref u12)])) X86 hx rfl rfl rfl (pc0 := 124) (pc' := 127) (same := false) rfl (hb hby at_124) rfl (decide_eq_false fun q => (F_u12.ne F_u6 (by decide)) (Value.ref.inj q)) (by decide) (by decide) k) ?_
    show own_End p e below _ (T86.setTop (mkF m 127 #[.val (.int p1), .val (.ref b5), .val (.ref u12), .val (.int (1 : Int32)), .unset] []))
    refine own_by (fun _ k => XS.iconst X86.here hx rfl (hb hby at_127) k) ?_
    show own_End p e below _ (T86.setTop (mkF m 128 #[.val (.int p1), .val (.ref b5), .val (.ref u12), .val (.int (1 : Int32)), .unset] [(.int (1 : Int32))]))
    refine own_by (fun _ k => XS.goto X86.here hx rfl (pc0 := 128) (pc' := 132) rfl (hb hby at_128) (by decide) (by decide) k) ?_
    show own_End p e below _ (T86.setTop (mkF m 132 #[.val (.int p1), .val (.ref b5), .val (.ref u12), .val (.int (1 : Int32)), .unset] [(.int (1 : Int32))]))
    refine own_by (fun _ k => XS.istore X86.here hx rfl (hb hby at_132) rfl (l' := #[.val (.int p1), .val (.ref b5), .val (.ref u12), .val (.int (1 : Int32)), .val (.int (1 : Int32))]) rfl k) ?_
    show own_End p e below _ (T86.setTop (mkF m 134 #[.val (.int p1), .val (.ref b5), .val (.ref u12), .val (.int (1 : Int32)), .val (.int (1 : Int32))] []))
    refine own_by (fun _ k => XS.iloadN X86.here hx rfl (hb hby at_134) rfl k) ?_
    show own_End p e below _ (T86.setTop (mkF m 135 #[.val (.int p1), .val (.ref b5), .val (.ref u12), .val (.int (1 : Int32)), .val (.int (1 : Int32))] [(.int (1 : Int32))]))
    refine own_by (fun _ k => XS.iload X86.here hx rfl (hb hby at_135) rfl k) ?_
    show own_End p e below _ (T86.setTop (mkF m 137 #[.val (.int p1), .val (.ref b5), .val (.ref u12), .val (.int (1 : Int32)), .val (.int (1 : Int32))] [(.int (1 : Int32)), (.int (1 : Int32))]))
    refine own_by (fun _ k => XS.icmpNo X86.here hx rfl (hb hby at_137) rfl (teq (by decide)).2 k) ?_
    show own_End p e below _ (T86.setTop (mkF m 140 #[.val (.int p1), .val (.ref b5), .val (.ref u12), .val (.int (1 : Int32)), .val (.int (1 : Int32))] []))
    refine own_by (fun _ k => XS.iloadN X86.here hx rfl (hb hby at_140) rfl k) ?_
    show own_End p e below _ (T86.setTop (mkF m 141 #[.val (.int p1), .val (.ref b5), .val (.ref u12), .val (.int (1 : Int32)), .val (.int (1 : Int32))] [(.int (1 : Int32))]))
    refine own_by (fun _ k => XS.aloadN X86.here hx rfl (hb hby at_141) rfl rfl k) ?_
    show own_End p e below _ (T86.setTop (mkF m 142 #[.val (.int p1), .val (.ref b5), .val (.ref u12), .val (.int (1 : Int32)), .val (.int (1 : Int32))] [(.ref u12), (.int (1 : Int32))]))
    obtain ⟨cq87, kq87, q87a, q87b, q87c⟩ := isOf hZ e86 (E_u12.ext O35)
    obtain ⟨_, _, ⟨T87, L87, k87, n87⟩, -, X87, ⟨Lc87, hQ87, l87, y87, z87⟩, st87⟩ := X86.virtualBack hx (y := (⟨"com/example/linkwright/linkwright/program/Option", "placeholder", "()Ljava/lang/String;"⟩ : MethodName)) (z := (⟨"com/example/linkwright/linkwright/program/Option", "placeholder", "()Ljava/lang/String;"⟩ : MethodName)) hown (mvT hZ (hw _ (List.mem_of_getElem? (i := 42) rfl))) (mvT hZ (hw _ (List.mem_of_getElem? (i := 43) rfl))) (notFace_of_selects (args := #[]) (mvT hZ (hw _ (List.mem_of_getElem? (i := 45) rfl)))) (mvT hZ (hw _ (List.mem_of_getElem? (i := 45) rfl))) (mvT hZ (hw _ (List.mem_of_getElem? (i := 44) rfl))) (by decide) (own_back (W := 1) (own_phR l Z a0 hw [] u12 x11 h35 n0 O35 P_u12) hZ (hw _ (List.mem_of_getElem? (i := 46) rfl)) (hw _ (List.mem_of_getElem? (i := 3) rfl)) (by decide) (by decide)) q87a q87c (g := (mkF m 142 #[.val (.int p1), .val (.ref b5), .val (.ref u12), .val (.int (1 : Int32)), .val (.int (1 : Int32))] [(.ref u12), (.int (1 : Int32))])) rfl (by rw [hml]; rfl) (Steps.refl _) (argsL := []) (rest := [(.int (1 : Int32))]) (lenOf own_pd1 rfl) rfl (by show 2 * 0 + _ ≤ _; exact Nat.le_of_eq rfl) (hb hby at_142) (fun _ _ => ⟨rfl, e86, (by decide : 1 + 0 ≤ _), (by decide : 15 + 0 ≤ _)⟩)
    dsimp only [Pt.U, Pt.locs, Pt.cells, Pt.slots] at X87 l87 y87 z87 st87 hQ87
    subst l87 y87 z87
    obtain ⟨rfl, N87q, e87⟩ := hQ87
    have N87 := Fr.app N85 N87q
    refine own_by (fun _ k => st87.trans k) ?_
    show own_End p e below _ (T87.setTop (mkF m 145 #[.val (.int p1), .val (.ref b5), .val (.ref u12), .val (.int (1 : Int32)), .val (.int (1 : Int32))] [(.ref x11), (.int (1 : Int32))]))
    refine own_by (fun _ k => XS.ifnullNo X87.here hx rfl (hb hby at_145) rfl k) ?_
    show own_End p e below _ (T87.setTop (mkF m 148 #[.val (.int p1), .val (.ref b5), .val (.ref u12), .val (.int (1 : Int32)), .val (.int (1 : Int32))] [(.int (1 : Int32))]))
    refine own_by (fun _ k => XS.iconst X87.here hx rfl (hb hby at_148) k) ?_
    show own_End p e below _ (T87.setTop (mkF m 149 #[.val (.int p1), .val (.ref b5), .val (.ref u12), .val (.int (1 : Int32)), .val (.int (1 : Int32))] [(.int (1 : Int32)), (.int (1 : Int32))]))
    refine own_by (fun _ k => XS.goto X87.here hx rfl (pc0 := 149) (pc' := 153) rfl (hb hby at_149) (by decide) (by decide) k) ?_
    show own_End p e below _ (T87.setTop (mkF m 153 #[.val (.int p1), .val (.ref b5), .val (.ref u12), .val (.int (1 : Int32)), .val (.int (1 : Int32))] [(.int (1 : Int32)), (.int (1 : Int32))]))
    refine own_by (fun _ k => XS.icmpNo X87.here hx rfl (hb hby at_153) rfl (teq (by decide)).2 k) ?_
    show own_End p e below _ (T87.setTop (mkF m 156 #[.val (.int p1), .val (.ref b5), .val (.ref u12), .val (.int (1 : Int32)), .val (.int (1 : Int32))] []))
    refine own_by (fun _ k => XS.iconst X87.here hx rfl (hb hby at_156) k) ?_
    show own_End p e below _ (T87.setTop (mkF m 157 #[.val (.int p1), .val (.ref b5), .val (.ref u12), .val (.int (1 : Int32)), .val (.int (1 : Int32))] [(.int (1 : Int32))]))
    refine own_by (fun _ k => XS.goto X87.here hx rfl (pc0 := 157) (pc' := 161) rfl (hb hby at_157) (by decide) (by decide) k) ?_
    show own_End p e below _ (T87.setTop (mkF m 161 #[.val (.int p1), .val (.ref b5), .val (.ref u12), .val (.int (1 : Int32)), .val (.int (1 : Int32))] [(.int (1 : Int32))]))
    obtain ⟨fs, hr, hrun, hended, hW, hsame⟩ := X87.leave (v := (some (.int (1 : Int32)))) (fun h => by rw [Bd.returns] at h; cases h)
    refine ⟨_, _, retN X87 hx (t := .boolean) Bd.returns (by simp) (hb hby at_161) hr, hrun, hended, _, _, rfl, ?_, ⟨_, rfl⟩, hW, hsame.mono (by decide) (by decide)⟩
    exact ⟨rfl, N87⟩
  · -- case 13
    rw [hq]
    show own_End p e below _ (T35.setTop (mkF m 113 #[.val (.int p1), .val (.ref b5), .unset, .unset, .unset] [(.int (13 : Int32)), (.ref b5)]))
    obtain ⟨cl88, Ar88, -, S88, M88, Hs88, -⟩ := V35_b5
    have hin88 : ¬ ((13 : Int32) < 0 ∨ cl88.slots.size ≤ ((13 : Int32)).toNatClampNeg) := inb_of S88 ⟨by decide, by decide⟩
    refine own_by (fun _ k => X35.aaload hx (j := (13 : Int32)) (v := (.ref u13)) (by rw [e35]; exact Ar88.1) (State.isArrayOf_alike hZ.alike Ar88.2.1) rfl Ar88.2.2 hin88 (Has.at Hs88 hin88 rfl) (g := (mkF m 113 #[.val (.int p1), .val (.ref b5), .unset, .unset, .unset] [(.int (13 : Int32)), (.ref b5)])) rfl rfl (hb hby at_113) _ k) ?_
    show own_End p e below _ (T35.setTop (mkF m 114 #[.val (.int p1), .val (.ref b5), .unset, .unset, .unset] [(.ref u13)]))
    refine own_by (fun _ k => XS.astoreN X35.here hx rfl (hb hby at_114) rfl rfl (l' := #[.val (.int p1), .val (.ref b5), .val (.ref u13), .unset, .unset]) rfl k) ?_
    show own_End p e below _ (T35.setTop (mkF m 115 #[.val (.int p1), .val (.ref b5), .val (.ref u13), .unset, .unset] []))
    refine own_by (fun _ k => XS.aloadN X35.here hx rfl (hb hby at_115) rfl rfl k) ?_
    show own_End p e below _ (T35.setTop (mkF m 116 #[.val (.int p1), .val (.ref b5), .val (.ref u13), .unset, .unset] [(.ref u13)]))
    obtain ⟨cq89, kq89, q89a, q89b, q89c⟩ := isOf hZ e35 (E_u13.ext O35)
    obtain ⟨_, _, ⟨T89, L89, k89, n89⟩, -, X89, ⟨Lc89, hQ89, l89, y89, z89⟩, st89⟩ := X35.virtualBack hx (y := (⟨"com/example/linkwright/linkwright/program/Option", "takesValue", "()Z"⟩ : MethodName)) (z := (⟨"com/example/linkwright/linkwright/program/Option", "takesValue", "()Z"⟩ : MethodName)) hown (mvT hZ (hw _ (List.mem_of_getElem? (i := 35) rfl))) (mvT hZ (hw _ (List.mem_of_getElem? (i := 36) rfl))) (notFace_of_selects (args := #[]) (mvT hZ (hw _ (List.mem_of_getElem? (i := 38) rfl)))) (mvT hZ (hw _ (List.mem_of_getElem? (i := 38) rfl))) (mvT hZ (hw _ (List.mem_of_getElem? (i := 37) rfl))) (by decide) (own_back (W := 0) (own_tkR l Z a0 hw [] u13 x13 h35 n0 O35 P_u13) hZ (hw _ (List.mem_of_getElem? (i := 39) rfl)) (hw _ (List.mem_of_getElem? (i := 3) rfl)) (by decide) (by decide)) q89a q89c (g := (mkF m 116 #[.val (.int p1), .val (.ref b5), .val (.ref u13), .unset, .unset] [(.ref u13)])) rfl (by rw [hml]; rfl) (Steps.refl _) (argsL := []) (rest := []) (lenOf own_pd0 rfl) rfl (by show 2 * 0 + _ ≤ _; exact Nat.le_of_eq rfl) (hb hby at_116) (fun _ _ => ⟨rfl, e35, (by decide : 1 + 0 ≤ _), (by decide : 15 + 0 ≤ _)⟩)
    dsimp only [Pt.U, Pt.locs, Pt.cells, Pt.slots] at X89 l89 y89 z89 st89 hQ89
    subst l89 y89 z89
    obtain ⟨rfl, N89q, e89⟩ := hQ89
    have N89 := Fr.app N35 N89q
    refine own_by (fun _ k => st89.trans k) ?_
    show own_End p e below _ (T89.setTop (mkF m 119 #[.val (.int p1), .val (.ref b5), .val (.ref u13), .unset, .unset] [(.int (1 : Int32))]))
    refine own_by (fun _ k => XS.istoreN X89.here hx rfl (hb hby at_119) rfl (l' := #[.val (.int p1), .val (.ref b5), .val (.ref u13), .val (.int (1 : Int32)), .unset]) rfl k) ?_
    show own_End p e below _ (T89.setTop (mkF m 120 #[.val (.int p1), .val (.ref b5), .val (.ref u13), .val (.int (1 : Int32)), .unset] []))
    refine own_by (fun _ k => XS.aloadN X89.here hx rfl (hb hby at_120) rfl rfl k) ?_
    show own_End p e below _ (T89.setTop (mkF m 121 #[.val (.int p1), .val (.ref b5), .val (.ref u13), .val (.int (1 : Int32)), .unset] [(.ref u13)]))
    obtain ⟨T90, X90, e90, st90⟩ := getS2 X89 hx hZ hown (host := "") (Or.inl (hw _ (List.mem_of_getElem? (i := 16) rfl))) Via.refl e89 (S_u6.ext O35) (g := (mkF m 121 #[.val (.int p1), .val (.ref b5), .val (.ref u13), .val (.int (1 : Int32)), .unset] [(.ref u13)])) rfl (hb hby at_121)
    refine own_by st90 ?_
    show own_End p e below _ (T90.setTop (mkF m 124 #[.val (.int p1), .val (.ref b5), .val (.ref u13), .val (.int (1 : Int32)), .unset] [(.ref u6), (.ref u13)]))
    refine own_by (fun _ k => Jvm.RoadKit.acmp (g := (mkF m 124 #[.val (.int p1), .val (.ref b5), .val (.ref u13), .val (.int (1 : Int32)), .unset] [(.ref u6), (.ref u13)])) X90 hx rfl rfl rfl (pc0 := 124) (pc' := 127) (same := false) rfl (hb hby at_124) rfl (decide_eq_false fun q => (F_u13.ne F_u6 (by decide)) (Value.ref.inj q)) (by decide) (by decide) k) ?_
    show own_End p e below _ (T90.setTop (mkF m 127 #[.val (.int p1), .val (.ref b5), .val (.ref u13), .val (.int (1 : Int32)), .unset] []))
    refine own_by (fun _ k => XS.iconst X90.here hx rfl (hb hby at_127) k) ?_
    show own_End p e below _ (T90.setTop (mkF m 128 #[.val (.int p1), .val (.ref b5), .val (.ref u13), .val (.int (1 : Int32)), .unset] [(.int (1 : Int32))]))
    refine own_by (fun _ k => XS.goto X90.here hx rfl (pc0 := 128) (pc' := 132) rfl (hb hby at_128) (by decide) (by decide) k) ?_
    show own_End p e below _ (T90.setTop (mkF m 132 #[.val (.int p1), .val (.ref b5), .val (.ref u13), .val (.int (1 : Int32)), .unset] [(.int (1 : Int32))]))
    refine own_by (fun _ k => XS.istore X90.here hx rfl (hb hby at_132) rfl (l' := #[.val (.int p1), .val (.ref b5), .val (.ref u13), .val (.int (1 : Int32)), .val (.int (1 : Int32))]) rfl k) ?_
    show own_End p e below _ (T90.setTop (mkF m 134 #[.val (.int p1), .val (.ref b5), .val (.ref u13), .val (.int (1 : Int32)), .val (.int (1 : Int32))] []))
    refine own_by (fun _ k => XS.iloadN X90.here hx rfl (hb hby at_134) rfl k) ?_
    show own_End p e below _ (T90.setTop (mkF m 135 #[.val (.int p1), .val (.ref b5), .val (.ref u13), .val (.int (1 : Int32)), .val (.int (1 : Int32))] [(.int (1 : Int32))]))
    refine own_by (fun _ k => XS.iload X90.here hx rfl (hb hby at_135) rfl k) ?_
    show own_End p e below _ (T90.setTop (mkF m 137 #[.val (.int p1), .val (.ref b5), .val (.ref u13), .val (.int (1 : Int32)), .val (.int (1 : Int32))] [(.int (1 : Int32)), (.int (1 : Int32))]))
    refine own_by (fun _ k => XS.icmpNo X90.here hx rfl (hb hby at_137) rfl (teq (by decide)).2 k) ?_
    show own_End p e below _ (T90.setTop (mkF m 140 #[.val (.int p1), .val (.ref b5), .val (.ref u13), .val (.int (1 : Int32)), .val (.int (1 : Int32))] []))
    refine own_by (fun _ k => XS.iloadN X90.here hx rfl (hb hby at_140) rfl k) ?_
    show own_End p e below _ (T90.setTop (mkF m 141 #[.val (.int p1), .val (.ref b5), .val (.ref u13), .val (.int (1 : Int32)), .val (.int (1 : Int32))] [(.int (1 : Int32))]))
    refine own_by (fun _ k => XS.aloadN X90.here hx rfl (hb hby at_141) rfl rfl k) ?_
    show own_End p e below _ (T90.setTop (mkF m 142 #[.val (.int p1), .val (.ref b5), .val (.ref u13), .val (.int (1 : Int32)), .val (.int (1 : Int32))] [(.ref u13), (.int (1 : Int32))]))
    obtain ⟨cq91, kq91, q91a, q91b, q91c⟩ := isOf hZ e90 (E_u13.ext O35)
    obtain ⟨_, _, ⟨T91, L91, k91, n91⟩, -, X91, ⟨Lc91, hQ91, l91, y91, z91⟩, st91⟩ := X90.virtualBack hx (y := (⟨"com/example/linkwright/linkwright/program/Option", "placeholder", "()Ljava/lang/String;"⟩ : MethodName)) (z := (⟨"com/example/linkwright/linkwright/program/Option", "placeholder", "()Ljava/lang/String;"⟩ : MethodName)) hown (mvT hZ (hw _ (List.mem_of_getElem? (i := 42) rfl))) (mvT hZ (hw _ (List.mem_of_getElem? (i := 43) rfl))) (notFace_of_selects (args := #[]) (mvT hZ (hw _ (List.mem_of_getElem? (i := 45) rfl)))) (mvT hZ (hw _ (List.mem_of_getElem? (i := 45) rfl))) (mvT hZ (hw _ (List.mem_of_getElem? (i := 44) rfl))) (by decide) (own_back (W := 1) (own_phR l Z a0 hw [] u13 x13 h35 n0 O35 P_u13) hZ (hw _ (List.mem_of_getElem? (i := 46) rfl)) (hw _ (List.mem_of_getElem? (i := 3) rfl)) (by decide) (by decide)) q91a q91c (g := (mkF m 142 #[.val (.int p1), .val (.ref b5), .val (.ref u13), .val (.int (1 : Int32)), .val (.int (1 : Int32))] [(.ref u13), (.int (1 : Int32))])) rfl (by rw [hml]; rfl) (Steps.refl _) (argsL := []) (rest := [(.int (1 : Int32))]) (lenOf own_pd1 rfl) rfl (by show 2 * 0 + _ ≤ _; exact Nat.le_of_eq rfl) (hb hby at_142) (fun _ _ => ⟨rfl, e90, (by decide : 1 + 0 ≤ _), (by decide : 15 + 0 ≤ _)⟩)
    dsimp only [Pt.U, Pt.locs, Pt.cells, Pt.slots] at X91 l91 y91 z91 st91 hQ91
    subst l91 y91 z91
    obtain ⟨rfl, N91q, e91⟩ := hQ91
    have N91 := Fr.app N89 N91q
    refine own_by (fun _ k => st91.trans k) ?_
    show own_End p e below _ (T91.setTop (mkF m 145 #[.val (.int p1), .val (.ref b5), .val (.ref u13), .val (.int (1 : Int32)), .val (.int (1 : Int32))] [(.ref x13), (.int (1 : Int32))]))
    refine own_by (fun _ k => XS.ifnullNo X91.here hx rfl (hb hby at_145) rfl k) ?_
    show own_End p e below _ (T91.setTop (mkF m 148 #[.val (.int p1), .val (.ref b5), .val (.ref u13), .val (.int (1 : Int32)), .val (.int (1 : Int32))] [(.int (1 : Int32))]))
    refine own_by (fun _ k => XS.iconst X91.here hx rfl (hb hby at_148) k) ?_
    show own_End p e below _ (T91.setTop (mkF m 149 #[.val (.int p1), .val (.ref b5), .val (.ref u13), .val (.int (1 : Int32)), .val (.int (1 : Int32))] [(.int (1 : Int32)), (.int (1 : Int32))]))
    refine own_by (fun _ k => XS.goto X91.here hx rfl (pc0 := 149) (pc' := 153) rfl (hb hby at_149) (by decide) (by decide) k) ?_
    show own_End p e below _ (T91.setTop (mkF m 153 #[.val (.int p1), .val (.ref b5), .val (.ref u13), .val (.int (1 : Int32)), .val (.int (1 : Int32))] [(.int (1 : Int32)), (.int (1 : Int32))]))
    refine own_by (fun _ k => XS.icmpNo X91.here hx rfl (hb hby at_153) rfl (teq (by decide)).2 k) ?_
    show own_End p e below _ (T91.setTop (mkF m 156 #[.val (.int p1), .val (.ref b5), .val (.ref u13), .val (.int (1 : Int32)), .val (.int (1 : Int32))] []))
    refine own_by (fun _ k => XS.iconst X91.here hx rfl (hb hby at_156) k) ?_
    show own_End p e below _ (T91.setTop (mkF m 157 #[.val (.int p1), .val (.ref b5), .val (.ref u13), .val (.int (1 : Int32)), .val (.int (1 : Int32))] [(.int (1 : Int32))]))
    refine own_by (fun _ k => XS.goto X91.here hx rfl (pc0 := 157) (pc' := 161) rfl (hb hby at_157) (by decide) (by decide) k) ?_
    show own_End p e below _ (T91.setTop (mkF m 161 #[.val (.int p1), .val (.ref b5), .val (.ref u13), .val (.int (1 : Int32)), .val (.int (1 : Int32))] [(.int (1 : Int32))]))
    obtain ⟨fs, hr, hrun, hended, hW, hsame⟩ := X91.leave (v := (some (.int (1 : Int32)))) (fun h => by rw [Bd.returns] at h; cases h)
    refine ⟨_, _, retN X91 hx (t := .boolean) Bd.returns (by simp) (hb hby at_161) hr, hrun, hended, _, _, rfl, ?_, ⟨_, rfl⟩, hW, hsame.mono (by decide) (by decide)⟩
    exact ⟨rfl, N91⟩
  · -- case 14
    rw [hq]
    show own_End p e below _ (T35.setTop (mkF m 113 #[.val (.int p1), .val (.ref b5), .unset, .unset, .unset] [(.int (14 : Int32)), (.ref b5)]))
    obtain ⟨cl92, Ar92, -, S92, M92, Hs92, -⟩ := V35_b5
    have hin92 : ¬ ((14 : Int32) < 0 ∨ cl92.slots.size ≤ ((14 : Int32)).toNatClampNeg) := inb_of S92 ⟨by decide, by decide⟩
    refine own_by (fun _ k => X35.aaload hx (j := (14 : Int32)) (v := (.ref u14)) (by rw [e35]; exact Ar92.1) (State.isArrayOf_alike hZ.alike Ar92.2.1) rfl Ar92.2.2 hin92 (Has.at Hs92 hin92 rfl) (g := (mkF m 113 #[.val (.int p1), .val (.ref b5), .unset, .unset, .unset] [(.int (14 : Int32)), (.ref b5)])) rfl rfl (hb hby at_113) _ k) ?_
    show own_End p e below _ (T35.setTop (mkF m 114 #[.val (.int p1), .val (.ref b5), .unset, .unset, .unset] [(.ref u14)]))
    refine own_by (fun _ k => XS.astoreN X35.here hx rfl (hb hby at_114) rfl rfl (l' := #[.val (.int p1), .val (.ref b5), .val (.ref u14), .unset, .unset]) rfl k) ?_
    show own_End p e below _ (T35.setTop (mkF m 115 #[.val (.int p1), .val (.ref b5), .val (.ref u14), .unset, .unset] []))
    refine own_by (fun _ k => XS.aloadN X35.here hx rfl (hb hby at_115) rfl rfl k) ?_
    show own_End p e below _ (T35.setTop (mkF m 116 #[.val (.int p1), .val (.ref b5), .val (.ref u14), .unset, .unset] [(.ref u14)]))
    obtain ⟨cq93, kq93, q93a, q93b, q93c⟩ := isOf hZ e35 (E_u14.ext O35)
    obtain ⟨_, _, ⟨T93, L93, k93, n93⟩, -, X93, ⟨Lc93, hQ93, l93, y93, z93⟩, st93⟩ := X35.virtualBack hx (y := (⟨"com/example/linkwright/linkwright/program/Option", "takesValue", "()Z"⟩ : MethodName)) (z := (⟨"com/example/linkwright/linkwright/program/Option", "takesValue", "()Z"⟩ : MethodName)) hown (mvT hZ (hw _ (List.mem_of_getElem? (i := 35) rfl))) (mvT hZ (hw _ (List.mem_of_getElem? (i := 36) rfl))) (notFace_of_selects (args := #[]) (mvT hZ (hw _ (List.mem_of_getElem? (i := 38) rfl)))) (mvT hZ (hw _ (List.mem_of_getElem? (i := 38) rfl))) (mvT hZ (hw _ (List.mem_of_getElem? (i := 37) rfl))) (by decide) (own_back (W := 0) (own_tkR l Z a0 hw [] u14 x14 h35 n0 O35 P_u14) hZ (hw _ (List.mem_of_getElem? (i := 39) rfl)) (hw _ (List.mem_of_getElem? (i := 3) rfl)) (by decide) (by decide)) q93a q93c (g := (mkF m 116 #[.val (.int p1), .val (.ref b5), .val (.ref u14), .unset, .unset] [(.ref u14)])) rfl (by rw [hml]; rfl) (Steps.refl _) (argsL := []) (rest := []) (lenOf own_pd0 rfl) rfl (by show 2 * 0 + _ ≤ _; exact Nat.le_of_eq rfl) (hb hby at_116) (fun _ _ => ⟨rfl, e35, (by decide : 1 + 0 ≤ _), (by decide : 15 + 0 ≤ _)⟩)
    dsimp only [Pt.U, Pt.locs, Pt.cells, Pt.slots] at X93 l93 y93 z93 st93 hQ93
    subst l93 y93 z93
    obtain ⟨rfl, N93q, e93⟩ := hQ93
    have N93 := Fr.app N35 N93q
    refine own_by (fun _ k => st93.trans k) ?_
    show own_End p e below _ (T93.setTop (mkF m 119 #[.val (.int p1), .val (.ref b5), .val (.ref u14), .unset, .unset] [(.int (1 : Int32))]))
    refine own_by (fun _ k => XS.istoreN X93.here hx rfl (hb hby at_119) rfl (l' := #[.val (.int p1), .val (.ref b5), .val (.ref u14), .val (.int (1 : Int32)), .unset]) rfl k) ?_
    show own_End p e below _ (T93.setTop (mkF m 120 #[.val (.int p1), .val (.ref b5), .val (.ref u14), .val (.int (1 : Int32)), .unset] []))
    refine own_by (fun _ k => XS.aloadN X93.here hx rfl (hb hby at_120) rfl rfl k) ?_
    show own_End p e below _ (T93.setTop (mkF m 121 #[.val (.int p1), .val (.ref b5), .val (.ref u14), .val (.int (1 : Int32)), .unset] [(.ref u14)]))
    obtain ⟨T94, X94, e94, st94⟩ := getS2 X93 hx hZ hown (host := "") (Or.inl (hw _ (List.mem_of_getElem? (i := 16) rfl))) Via.refl e93 (S_u6.ext O35) (g := (mkF m 121 #[.val (.int p1), .val (.ref b5), .val (.ref u14), .val (.int (1 : Int32)), .unset] [(.ref u14)])) rfl (hb hby at_121)
    refine own_by st94 ?_
    show own_End p e below _ (T94.setTop (mkF m 124 #[.val (.int p1), .val (.ref b5), .val (.ref u14), .val (.int (1 : Int32)), .unset] [(.ref u6), (.ref u14)]))
    refine own_by (fun _ k => Jvm.RoadKit.acmp (g := (mkF m 124 #[.val (.int p1), .val (.ref b5), .val (.ref u14), .val (.int (1 : Int32)), .unset] [(.ref u6), (.ref u14)])) X94 hx rfl rfl rfl (pc0 := 124) (pc' := 127) (same := false) rfl (hb hby at_124) rfl (decide_eq_false fun q => (F_u14.ne F_u6 (by decide)) (Value.ref.inj q)) (by decide) (by decide) k) ?_
    show own_End p e below _ (T94.setTop (mkF m 127 #[.val (.int p1), .val (.ref b5), .val (.ref u14), .val (.int (1 : Int32)), .unset] []))
    refine own_by (fun _ k => XS.iconst X94.here hx rfl (hb hby at_127) k) ?_
    show own_End p e below _ (T94.setTop (mkF m 128 #[.val (.int p1), .val (.ref b5), .val (.ref u14), .val (.int (1 : Int32)), .unset] [(.int (1 : Int32))]))
    refine own_by (fun _ k => XS.goto X94.here hx rfl (pc0 := 128) (pc' := 132) rfl (hb hby at_128) (by decide) (by decide) k) ?_
    show own_End p e below _ (T94.setTop (mkF m 132 #[.val (.int p1), .val (.ref b5), .val (.ref u14), .val (.int (1 : Int32)), .unset] [(.int (1 : Int32))]))
    refine own_by (fun _ k => XS.istore X94.here hx rfl (hb hby at_132) rfl (l' := #[.val (.int p1), .val (.ref b5), .val (.ref u14), .val (.int (1 : Int32)), .val (.int (1 : Int32))]) rfl k) ?_
    show own_End p e below _ (T94.setTop (mkF m 134 #[.val (.int p1), .val (.ref b5), .val (.ref u14), .val (.int (1 : Int32)), .val (.int (1 : Int32))] []))
    refine own_by (fun _ k => XS.iloadN X94.here hx rfl (hb hby at_134) rfl k) ?_
    show own_End p e below _ (T94.setTop (mkF m 135 #[.val (.int p1), .val (.ref b5), .val (.ref u14), .val (.int (1 : Int32)), .val (.int (1 : Int32))] [(.int (1 : Int32))]))
    refine own_by (fun _ k => XS.iload X94.here hx rfl (hb hby at_135) rfl k) ?_
    show own_End p e below _ (T94.setTop (mkF m 137 #[.val (.int p1), .val (.ref b5), .val (.ref u14), .val (.int (1 : Int32)), .val (.int (1 : Int32))] [(.int (1 : Int32)), (.int (1 : Int32))]))
    refine own_by (fun _ k => XS.icmpNo X94.here hx rfl (hb hby at_137) rfl (teq (by decide)).2 k) ?_
    show own_End p e below _ (T94.setTop (mkF m 140 #[.val (.int p1), .val (.ref b5), .val (.ref u14), .val (.int (1 : Int32)), .val (.int (1 : Int32))] []))
    refine own_by (fun _ k => XS.iloadN X94.here hx rfl (hb hby at_140) rfl k) ?_
    show own_End p e below _ (T94.setTop (mkF m 141 #[.val (.int p1), .val (.ref b5), .val (.ref u14), .val (.int (1 : Int32)), .val (.int (1 : Int32))] [(.int (1 : Int32))]))
    refine own_by (fun _ k => XS.aloadN X94.here hx rfl (hb hby at_141) rfl rfl k) ?_
    show own_End p e below _ (T94.setTop (mkF m 142 #[.val (.int p1), .val (.ref b5), .val (.ref u14), .val (.int (1 : Int32)), .val (.int (1 : Int32))] [(.ref u14), (.int (1 : Int32))]))
    obtain ⟨cq95, kq95, q95a, q95b, q95c⟩ := isOf hZ e94 (E_u14.ext O35)
    obtain ⟨_, _, ⟨T95, L95, k95, n95⟩, -, X95, ⟨Lc95, hQ95, l95, y95, z95⟩, st95⟩ := X94.virtualBack hx (y := (⟨"com/example/linkwright/linkwright/program/Option", "placeholder", "()Ljava/lang/String;"⟩ : MethodName)) (z := (⟨"com/example/linkwright/linkwright/program/Option", "placeholder", "()Ljava/lang/String;"⟩ : MethodName)) hown (mvT hZ (hw _ (List.mem_of_getElem? (i := 42) rfl))) (mvT hZ (hw _ (List.mem_of_getElem? (i := 43) rfl))) (notFace_of_selects (args := #[]) (mvT hZ (hw _ (List.mem_of_getElem? (i := 45) rfl)))) (mvT hZ (hw _ (List.mem_of_getElem? (i := 45) rfl))) (mvT hZ (hw _ (List.mem_of_getElem? (i := 44) rfl))) (by decide) (own_back (W := 1) (own_phR l Z a0 hw [] u14 x14 h35 n0 O35 P_u14) hZ (hw _ (List.mem_of_getElem? (i := 46) rfl)) (hw _ (List.mem_of_getElem? (i := 3) rfl)) (by decide) (by decide)) q95a q95c (g := (mkF m 142 #[.val (.int p1), .val (.ref b5), .val (.ref u14), .val (.int (1 : Int32)), .val (.int (1 : Int32))] [(.ref u14), (.int (1 : Int32))])) rfl (by rw [hml]; rfl) (Steps.refl _) (argsL := []) (rest := [(.int (1 : Int32))]) (lenOf own_pd1 rfl) rfl (by show 2 * 0 + _ ≤ _; exact Nat.le_of_eq rfl) (hb hby at_142) (fun _ _ => ⟨rfl, e94, (by decide : 1 + 0 ≤ _), (by decide : 15 + 0 ≤ _)⟩)
    dsimp only [Pt.U, Pt.locs, Pt.cells, Pt.slots] at X95 l95 y95 z95 st95 hQ95
    subst l95 y95 z95
    obtain ⟨rfl, N95q, e95⟩ := hQ95
    have N95 := Fr.app N93 N95q
    refine own_by (fun _ k => st95.trans k) ?_
    show own_End p e below _ (T95.setTop (mkF m 145 #[.val (.int p1), .val (.ref b5), .val (.ref u14), .val (.int (1 : Int32)), .val (.int (1 : Int32))] [(.ref x14), (.int (1 : Int32))]))
    refine own_by (fun _ k => XS.ifnullNo X95.here hx rfl (hb hby at_145) rfl k) ?_
    show own_End p e below _ (T95.setTop (mkF m 148 #[.val (.int p1), .val (.ref b5), .val (.ref u14), .val (.int (1 : Int32)), .val (.int (1 : Int32))] [(.int (1 : Int32))]))
    refine own_by (fun _ k => XS.iconst X95.here hx rfl (hb hby at_148) k) ?_
    show own_End p e below _ (T95.setTop (mkF m 149 #[.val (.int p1), .val (.ref b5), .val (.ref u14), .val (.int (1 : Int32)), .val (.int (1 : Int32))] [(.int (1 : Int32)), (.int (1 : Int32))]))
    refine own_by (fun _ k => XS.goto X95.here hx rfl (pc0 := 149) (pc' := 153) rfl (hb hby at_149) (by decide) (by decide) k) ?_
    show own_End p e below _ (T95.setTop (mkF m 153 #[.val (.int p1), .val (.ref b5), .val (.ref u14), .val (.int (1 : Int32)), .val (.int (1 : Int32))] [(.int (1 : Int32)), (.int (1 : Int32))]))
    refine own_by (fun _ k => XS.icmpNo X95.here hx rfl (hb hby at_153) rfl (teq (by decide)).2 k) ?_
    show own_End p e below _ (T95.setTop (mkF m 156 #[.val (.int p1), .val (.ref b5), .val (.ref u14), .val (.int (1 : Int32)), .val (.int (1 : Int32))] []))
    refine own_by (fun _ k => XS.iconst X95.here hx rfl (hb hby at_156) k) ?_
    show own_End p e below _ (T95.setTop (mkF m 157 #[.val (.int p1), .val (.ref b5), .val (.ref u14), .val (.int (1 : Int32)), .val (.int (1 : Int32))] [(.int (1 : Int32))]))
    refine own_by (fun _ k => XS.goto X95.here hx rfl (pc0 := 157) (pc' := 161) rfl (hb hby at_157) (by decide) (by decide) k) ?_
    show own_End p e below _ (T95.setTop (mkF m 161 #[.val (.int p1), .val (.ref b5), .val (.ref u14), .val (.int (1 : Int32)), .val (.int (1 : Int32))] [(.int (1 : Int32))]))
    obtain ⟨fs, hr, hrun, hended, hW, hsame⟩ := X95.leave (v := (some (.int (1 : Int32)))) (fun h => by rw [Bd.returns] at h; cases h)
    refine ⟨_, _, retN X95 hx (t := .boolean) Bd.returns (by simp) (hb hby at_161) hr, hrun, hended, _, _, rfl, ?_, ⟨_, rfl⟩, hW, hsame.mono (by decide) (by decide)⟩
    exact ⟨rfl, N95⟩
set_option maxRecDepth 65536 in
set_option maxHeartbeats 40000000 in
theorem comes_1 {Post : Tables → Env → Array Value → State → Outcome → State → Prop} (hpost : ∀ tb e args s v u, (limb_1_1.after args s (.returned v) u = true ∧ limb_1_2.after args s (.returned v) u = true ∧ True) → FrameEnd s (.returned v) u (Jvm.fieldLocs frame_1_writes args s ++ Jvm.arrayLocs frame_1_arrays args s ++ Jvm.staticLocs frame_1_statics s) 16 128 → Post tb e args s (.returned v) u) :
    ArmFor flags0 classFile x code maxLocals ret World_1 tables_1 room_1 Calls_1 rest_1 Pre_1 Post := by
  intro l hfl _ _ p e ha hc hk s m args below hf hA hF happ hP
  obtain ⟨hcalls, hrest, hpre⟩ := hP
  obtain ⟨-, -, -, hnamed, -, -, -, hat⟩ := (Spec.applies_iff hf).mp happ
  obtain ⟨hg, hn⟩ := and_e (Cond.before_iff.mp (show (Jvm.Cond.and given_1 narrow_1).before args s = true from hpre))
  obtain ⟨g0, g0'⟩ := and_e hg
  obtain ⟨w0, rfl⟩ : ∃ w0 : Value, args = #[w0] := by
    have hs : args.size = 1 := by simpa [Cond.value, given_1] using g0
    obtain ⟨L⟩ := args
    match L, hs with
    | [w0], _ => exact ⟨w0, rfl⟩
  have hw := fun d (hd : d ∈ tables_1) => atoms_spec (ws := Jvm.Cond.code x code maxLocals ret :: tables_1) hat d (List.mem_cons_of_mem _ hd)
  have hfit : Fit s := fun {y c} hc i hi => by
    obtain ⟨ha, rfl⟩ := Array.getElem?_eq_some_iff.mp hc
    have q := List.all_eq_true.mp ((Array.all_eq_true_iff_forall_mem.mp hF) _ (Array.getElem_mem ha)) i (List.mem_range.mpr hi)
    simpa [Array.getElem?_eq_getElem hi] using q
  obtain ⟨i0, ei0⟩ := is_v g0'
  obtain rfl : w0 = (.int i0) := Option.some.inj ei0
  obtain ⟨q0, hn⟩ := and_e hn
  obtain ⟨q1, hn⟩ := and_e hn
  obtain ⟨q2, hn⟩ := and_e hn
  obtain ⟨q3, hn⟩ := and_e hn
  obtain ⟨q4, hn⟩ := and_e hn
  obtain ⟨q5, hn⟩ := and_e hn
  obtain ⟨q6, hn⟩ := and_e hn
  obtain ⟨q7, hn⟩ := and_e hn
  obtain ⟨q8, hn⟩ := and_e hn
  obtain ⟨q9, hn⟩ := and_e hn
  obtain ⟨q10, hn⟩ := and_e hn
  obtain ⟨q11, hn⟩ := and_e hn
  obtain ⟨q12, hn⟩ := and_e hn
  obtain ⟨q13, hn⟩ := and_e hn
  obtain ⟨q14, hn⟩ := and_e hn
  obtain ⟨q15, hn⟩ := and_e hn
  obtain ⟨q16, hn⟩ := and_e hn
  obtain ⟨q17, hn⟩ := and_e hn
  obtain ⟨q18, hn⟩ := and_e hn
  obtain ⟨q19, hn⟩ := and_e hn
  obtain ⟨q20, hn⟩ := and_e hn
  obtain ⟨q21, hn⟩ := and_e hn
  obtain ⟨q22, hn⟩ := and_e hn
  obtain ⟨q23, hn⟩ := and_e hn
  obtain ⟨q24, hn⟩ := and_e hn
  obtain ⟨q25, hn⟩ := and_e hn
  obtain ⟨q26, hn⟩ := and_e hn
  obtain ⟨q27, hn⟩ := and_e hn
  obtain ⟨q28, hn⟩ := and_e hn
  obtain ⟨q29, hn⟩ := and_e hn
  obtain ⟨q30, hn⟩ := and_e hn
  obtain ⟨q31, hn⟩ := and_e hn
  obtain ⟨q32, hn⟩ := and_e hn
  obtain ⟨q33, hn⟩ := and_e hn
  obtain ⟨q34, hn⟩ := and_e hn
  obtain ⟨q35, hn⟩ := and_e hn
  obtain ⟨q36, hn⟩ := and_e hn
  obtain ⟨q37, hn⟩ := and_e hn
  obtain ⟨q38, hn⟩ := and_e hn
  obtain ⟨q39, hn⟩ := and_e hn
  obtain ⟨q40, hn⟩ := and_e hn
  obtain ⟨q41, hn⟩ := and_e hn
  obtain ⟨q42, hn⟩ := and_e hn
  obtain ⟨q43, hn⟩ := and_e hn
  obtain ⟨u0, ev_u0⟩ := exa_v q0
  have S_u0 := Sta.start ev_u0 (Or.inr ⟨(hw _ (List.mem_of_getElem? (i := 3) rfl)), (hw _ (List.mem_of_getElem? (i := 4) rfl))⟩)
  have E_u0 := Exa.start ev_u0 q0
  obtain ⟨u1, ev_u1⟩ := exa_v q1
  have S_u1 := Sta.start ev_u1 (Or.inr ⟨(hw _ (List.mem_of_getElem? (i := 3) rfl)), (hw _ (List.mem_of_getElem? (i := 7) rfl))⟩)
  have E_u1 := Exa.start ev_u1 q1
  obtain ⟨u2, ev_u2⟩ := exa_v q2
  have S_u2 := Sta.start ev_u2 (Or.inr ⟨(hw _ (List.mem_of_getElem? (i := 3) rfl)), (hw _ (List.mem_of_getElem? (i := 9) rfl))⟩)
  have E_u2 := Exa.start ev_u2 q2
  obtain ⟨u3, ev_u3⟩ := exa_v q3
  have S_u3 := Sta.start ev_u3 (Or.inr ⟨(hw _ (List.mem_of_getElem? (i := 3) rfl)), (hw _ (List.mem_of_getElem? (i := 11) rfl))⟩)
  have E_u3 := Exa.start ev_u3 q3
  obtain ⟨u4, ev_u4⟩ := exa_v q4
  have S_u4 := Sta.start ev_u4 (Or.inr ⟨(hw _ (List.mem_of_getElem? (i := 3) rfl)), (hw _ (List.mem_of_getElem? (i := 13) rfl))⟩)
  have E_u4 := Exa.start ev_u4 q4
  obtain ⟨u5, ev_u5⟩ := exa_v q5
  have S_u5 := Sta.start ev_u5 (Or.inr ⟨(hw _ (List.mem_of_getElem? (i := 3) rfl)), (hw _ (List.mem_of_getElem? (i := 15) rfl))⟩)
  have E_u5 := Exa.start ev_u5 q5
  obtain ⟨u6, ev_u6⟩ := exa_v q6
  have S_u6 := Sta.start ev_u6 (Or.inr ⟨(hw _ (List.mem_of_getElem? (i := 3) rfl)), (hw _ (List.mem_of_getElem? (i := 17) rfl))⟩)
  have E_u6 := Exa.start ev_u6 q6
  obtain ⟨u7, ev_u7⟩ := exa_v q7
  have S_u7 := Sta.start ev_u7 (Or.inr ⟨(hw _ (List.mem_of_getElem? (i := 3) rfl)), (hw _ (List.mem_of_getElem? (i := 19) rfl))⟩)
  have E_u7 := Exa.start ev_u7 q7
  obtain ⟨u8, ev_u8⟩ := exa_v q8
  have S_u8 := Sta.start ev_u8 (Or.inr ⟨(hw _ (List.mem_of_getElem? (i := 3) rfl)), (hw _ (List.mem_of_getElem? (i := 21) rfl))⟩)
  have E_u8 := Exa.start ev_u8 q8
  obtain ⟨u9, ev_u9⟩ := exa_v q9
  have S_u9 := Sta.start ev_u9 (Or.inr ⟨(hw _ (List.mem_of_getElem? (i := 3) rfl)), (hw _ (List.mem_of_getElem? (i := 23) rfl))⟩)
  have E_u9 := Exa.start ev_u9 q9
  obtain ⟨u10, ev_u10⟩ := exa_v q10
  have S_u10 := Sta.start ev_u10 (Or.inr ⟨(hw _ (List.mem_of_getElem? (i := 3) rfl)), (hw _ (List.mem_of_getElem? (i := 25) rfl))⟩)
  have E_u10 := Exa.start ev_u10 q10
  obtain ⟨u11, ev_u11⟩ := exa_v q11
  have S_u11 := Sta.start ev_u11 (Or.inr ⟨(hw _ (List.mem_of_getElem? (i := 3) rfl)), (hw _ (List.mem_of_getElem? (i := 27) rfl))⟩)
  have E_u11 := Exa.start ev_u11 q11
  obtain ⟨u12, ev_u12⟩ := exa_v q12
  have S_u12 := Sta.start ev_u12 (Or.inr ⟨(hw _ (List.mem_of_getElem? (i := 3) rfl)), (hw _ (List.mem_of_getElem? (i := 29) rfl))⟩)
  have E_u12 := Exa.start ev_u12 q12
  obtain ⟨u13, ev_u13⟩ := exa_v q13
  have S_u13 := Sta.start ev_u13 (Or.inr ⟨(hw _ (List.mem_of_getElem? (i := 3) rfl)), (hw _ (List.mem_of_getElem? (i := 31) rfl))⟩)
  have E_u13 := Exa.start ev_u13 q13
  obtain ⟨u14, ev_u14⟩ := exa_v q14
  have S_u14 := Sta.start ev_u14 (Or.inr ⟨(hw _ (List.mem_of_getElem? (i := 3) rfl)), (hw _ (List.mem_of_getElem? (i := 33) rfl))⟩)
  have E_u14 := Exa.start ev_u14 q14
  have f_ordinal_u0 := own_intEq q16
  rw [fld_at ev_u0] at f_ordinal_u0
  have F_ordinal_u0 := Fld.start f_ordinal_u0
  have f_ordinal_u6 := own_intEq q17
  rw [fld_at ev_u6] at f_ordinal_u6
  have F_ordinal_u6 := Fld.start f_ordinal_u6
  have f_ordinal_u3 := own_intEq q19
  rw [fld_at ev_u3] at f_ordinal_u3
  have F_ordinal_u3 := Fld.start f_ordinal_u3
  have f_ordinal_u5 := own_intEq q21
  rw [fld_at ev_u5] at f_ordinal_u5
  have F_ordinal_u5 := Fld.start f_ordinal_u5
  have f_ordinal_u13 := own_intEq q23
  rw [fld_at ev_u13] at f_ordinal_u13
  have F_ordinal_u13 := Fld.start f_ordinal_u13
  have f_ordinal_u14 := own_intEq q26
  rw [fld_at ev_u14] at f_ordinal_u14
  have F_ordinal_u14 := Fld.start f_ordinal_u14
  have f_ordinal_u7 := own_intEq q28
  rw [fld_at ev_u7] at f_ordinal_u7
  have F_ordinal_u7 := Fld.start f_ordinal_u7
  have f_ordinal_u2 := own_intEq q30
  rw [fld_at ev_u2] at f_ordinal_u2
  have F_ordinal_u2 := Fld.start f_ordinal_u2
  have f_ordinal_u11 := own_intEq q32
  rw [fld_at ev_u11] at f_ordinal_u11
  have F_ordinal_u11 := Fld.start f_ordinal_u11
  have f_ordinal_u10 := own_intEq q34
  rw [fld_at ev_u10] at f_ordinal_u10
  have F_ordinal_u10 := Fld.start f_ordinal_u10
  have f_ordinal_u8 := own_intEq q36
  rw [fld_at ev_u8] at f_ordinal_u8
  have F_ordinal_u8 := Fld.start f_ordinal_u8
  have f_ordinal_u1 := own_intEq q38
  rw [fld_at ev_u1] at f_ordinal_u1
  have F_ordinal_u1 := Fld.start f_ordinal_u1
  have f_ordinal_u12 := own_intEq q40
  rw [fld_at ev_u12] at f_ordinal_u12
  have F_ordinal_u12 := Fld.start f_ordinal_u12
  have f_ordinal_u4 := own_intEq q42
  rw [fld_at ev_u4] at f_ordinal_u4
  have F_ordinal_u4 := Fld.start f_ordinal_u4
  have f_ordinal_u9 := own_intEq hn
  rw [fld_at ev_u9] at f_ordinal_u9
  have F_ordinal_u9 := Fld.start f_ordinal_u9
  obtain ⟨x_placeholder_u0, f_placeholder_u0⟩ := exa_v q15
  have fe_placeholder_u0 := f_placeholder_u0
  rw [fld_at ev_u0] at f_placeholder_u0
  have F_placeholder_u0 := Fld.start f_placeholder_u0
  obtain ⟨x_placeholder_u5, f_placeholder_u5⟩ := exa_v q20
  have fe_placeholder_u5 := f_placeholder_u5
  rw [fld_at ev_u5] at f_placeholder_u5
  have F_placeholder_u5 := Fld.start f_placeholder_u5
  obtain ⟨x_placeholder_u13, f_placeholder_u13⟩ := exa_v q22
  have fe_placeholder_u13 := f_placeholder_u13
  rw [fld_at ev_u13] at f_placeholder_u13
  have F_placeholder_u13 := Fld.start f_placeholder_u13
  obtain ⟨x_placeholder_u14, f_placeholder_u14⟩ := exa_v q25
  have fe_placeholder_u14 := f_placeholder_u14
  rw [fld_at ev_u14] at f_placeholder_u14
  have F_placeholder_u14 := Fld.start f_placeholder_u14
  obtain ⟨x_placeholder_u7, f_placeholder_u7⟩ := exa_v q27
  have fe_placeholder_u7 := f_placeholder_u7
  rw [fld_at ev_u7] at f_placeholder_u7
  have F_placeholder_u7 := Fld.start f_placeholder_u7
  obtain ⟨x_placeholder_u11, f_placeholder_u11⟩ := exa_v q31
  have fe_placeholder_u11 := f_placeholder_u11
  rw [fld_at ev_u11] at f_placeholder_u11
  have F_placeholder_u11 := Fld.start f_placeholder_u11
  obtain ⟨x_placeholder_u8, f_placeholder_u8⟩ := exa_v q35
  have fe_placeholder_u8 := f_placeholder_u8
  rw [fld_at ev_u8] at f_placeholder_u8
  have F_placeholder_u8 := Fld.start f_placeholder_u8
  obtain ⟨x_placeholder_u1, f_placeholder_u1⟩ := exa_v q37
  have fe_placeholder_u1 := f_placeholder_u1
  rw [fld_at ev_u1] at f_placeholder_u1
  have F_placeholder_u1 := Fld.start f_placeholder_u1
  obtain ⟨x_placeholder_u4, f_placeholder_u4⟩ := exa_v q41
  have fe_placeholder_u4 := f_placeholder_u4
  rw [fld_at ev_u4] at f_placeholder_u4
  have F_placeholder_u4 := Fld.start f_placeholder_u4
  have f_placeholder_u3 := own_refEq q18 fe_placeholder_u0
  rw [fld_at ev_u3] at f_placeholder_u3
  have F_placeholder_u3 := Fld.start f_placeholder_u3
  have f_placeholder_u6 := null_v q24
  rw [fld_at ev_u6] at f_placeholder_u6
  have F_placeholder_u6 := Fld.start f_placeholder_u6
  have f_placeholder_u2 := own_refEq q29 fe_placeholder_u0
  rw [fld_at ev_u2] at f_placeholder_u2
  have F_placeholder_u2 := Fld.start f_placeholder_u2
  have f_placeholder_u10 := own_refEq q33 fe_placeholder_u11
  rw [fld_at ev_u10] at f_placeholder_u10
  have F_placeholder_u10 := Fld.start f_placeholder_u10
  have f_placeholder_u12 := own_refEq q39 fe_placeholder_u11
  rw [fld_at ev_u12] at f_placeholder_u12
  have F_placeholder_u12 := Fld.start f_placeholder_u12
  have f_placeholder_u9 := own_refEq q43 fe_placeholder_u11
  rw [fld_at ev_u9] at f_placeholder_u9
  have F_placeholder_u9 := Fld.start f_placeholder_u9
  obtain ⟨n, o, h1, h2, h3, _, L, rfl, ⟨rfl, N⟩, hq⟩ := own_law l s _ hw tables_1 i0 u0 u1 u2 u3 u4 u5 u6 u7 u8 u9 u10 u11 u12 u13 u14 x_placeholder_u0 x_placeholder_u1 x_placeholder_u4 x_placeholder_u5 x_placeholder_u7 x_placeholder_u8 x_placeholder_u11 x_placeholder_u13 x_placeholder_u14 s.heap s.heap.size (Nat.le_refl _) ⟨Nat.le_refl _, fun _ _ q => q⟩ S_u0 S_u1 S_u2 S_u3 S_u4 S_u5 S_u6 S_u7 S_u8 S_u9 S_u10 S_u11 S_u12 S_u13 S_u14 E_u0 E_u1 E_u2 E_u3 E_u4 E_u5 E_u6 E_u7 E_u8 E_u9 E_u10 E_u11 E_u12 E_u13 E_u14 F_ordinal_u0 F_ordinal_u1 F_ordinal_u2 F_ordinal_u3 F_ordinal_u4 F_ordinal_u5 F_ordinal_u6 F_ordinal_u7 F_ordinal_u8 F_ordinal_u9 F_ordinal_u10 F_ordinal_u11 F_ordinal_u12 F_ordinal_u13 F_ordinal_u14 F_placeholder_u0 F_placeholder_u1 F_placeholder_u2 F_placeholder_u3 F_placeholder_u4 F_placeholder_u5 F_placeholder_u6 F_placeholder_u7 F_placeholder_u8 F_placeholder_u9 F_placeholder_u10 F_placeholder_u11 F_placeholder_u12 F_placeholder_u13 F_placeholder_u14 p e ha hc hk s m _ below hf ((Spec.applies_iff_loose hf).mp happ).1 ⟨rfl, State.Warmed39.refl s, rfl⟩ trivial
  refine ⟨n, _, h1, h2, h3, hpost _ _ _ _ _ _ ⟨Cond.after_iff.mpr rfl, Cond.after_iff.mpr (eq_i res_at (Term.int_eval (1)) rfl), trivial⟩ ⟨hq.1, hq.2.1, (hq.2.2.sift fun y hy => Or.inr (N y hy)).mono (by decide) (by decide)⟩⟩
theorem main_1_1 : Claimed_1_1 := comes_1 fun _ _ _ _ _ _ h hF => ⟨h.1, hF⟩
theorem main_1_2 : Claimed_1_2 := comes_1 fun _ _ _ _ _ _ h hF => ⟨h.2.1, hF⟩
end Jvm.Pilot.@@N@@
namespace Jvm.Pilot.@@N@@
open Jvm Jvm.ClassFile Sem Op Lib Jvm.Free Jvm.Stand Jvm.Pilot.@@N@@.Jvm.D
/-! MADE BY PROGRAM (witnessworld.py) out of the Statement's table words and the real class files: 16 classes; the members and pool entries that the words name. The judged class is class 1, her method 1. -/
namespace start1
open Jvm.ClassFile
def u (s : String) : CpInfo := .utf8 (stringToUtf16 s)
/-- a pool by its gaps: so many unusable entries, then the entry; so many at the end -/
def gap : Nat → List CpInfo → List CpInfo
  | 0, r => r
  | n + 1, r => .unusable :: gap n r
def poolList (es : List (Nat × CpInfo)) (last : Nat) : List CpInfo := es.foldr (fun e r => gap e.1 (e.2 :: r)) (gap last [])
def pool (es : List (Nat × CpInfo)) (last : Nat) : Array CpInfo := ⟨poolList es last⟩
def fileOf (pool : Array CpInfo) (this : Nat) (attrs : Array Attribute := #[]) (ms : Array MethodInfo := #[]) (fl : Nat := 33) (sup : Nat := 0) (ifs : Array Nat := #[]) (fds : Array FieldInfo := #[]) : ClassFile where
  minorVersion := 0
  majorVersion := 65
  constantPool := pool
  accessFlags := fl
  thisClass := this
  superClass := sup
  interfaces := ifs
  fields := fds
  methods := ms
  attributes := attrs
def plain (name : String) (sup : Option ClassId) : Class where
  name := name
  kind := .ordinary
  loader := none
  accessFlags := 33
  super := sup
  interfaces := #[]
  cf := none
  fields := #[]
  methods := #[]
  instanceTypes := #[]
  staticTypes := #[]
  resolved := #[]
  callSites := []
  init := .initialized
  statics := none
  mirror := none

def pool0 : Array CpInfo := pool [(5, u "<init>"), (0, u "()V"), (1, .class_ 10), (1, u "java/lang/Object")] 113

def k0m0 : Method := { name := "<init>", desc := "()V", sig := { parameters := [], returnType := none }, accessFlags := 1, code := none }
/-- java/lang/Object -/
def k0 : Class := { plain "java/lang/Object" none with
  accessFlags := 33
  interfaces := #[]
  cf := some (fileOf pool0 8 #[] #[{ accessFlags := 1, nameIndex := 5, descriptorIndex := 6, attributes := #[] }] 33 0 #[] #[])
  fields := #[]
  methods := #[k0m0]
  instanceTypes := #[]
  staticTypes := #[]
  resolved := Array.replicate 124 none
  statics := none }

def pool1 : Array CpInfo := pool [(2, .class_ 4), (1, u "java/lang/Object"), (0, u "<init>"), (0, u "()V"), (0, .class_ 8), (0, u "com/example/linkwright/linkwright/program/Option"), (0, .fieldref 7 10), (0, .nameAndType 11 12), (0, u "REGISTRY"), (0, u "Lcom/example/linkwright/linkwright/program/Option;"), (0, .fieldref 7 14), (0, .nameAndType 15 12), (0, u "REMOTE"), (0, .fieldref 7 17), (0, .nameAndType 18 12), (0, u "REQUEST"), (0, .fieldref 7 20), (0, .nameAndType 21 12), (0, u "PLAN"), (0, .fieldref 7 23), (0, .nameAndType 24 12), (0, u "WSC08"), (0, .fieldref 7 26), (0, .nameAndType 27 12), (0, u "OBJECTIVE"), (0, .fieldref 7 29), (0, .nameAndType 30 12), (0, u "ALL"), (0, .fieldref 7 32), (0, .nameAndType 33 12), (0, u "MAX"), (0, .fieldref 7 35), (0, .nameAndType 36 12), (0, u "DEADLINE"), (0, .fieldref 7 38), (0, .nameAndType 39 12), (0, u "CONSUMES"), (0, .fieldref 7 41), (0, .nameAndType 42 12), (0, u "PRODUCES"), (0, .fieldref 7 44), (0, .nameAndType 45 12), (0, u "INVOKABLE_WITH"), (0, .fieldref 7 47), (0, .nameAndType 48 12), (0, u "NAMED"), (0, .fieldref 7 50), (0, .nameAndType 51 12), (0, u "HOST"), (0, .fieldref 7 53), (0, .nameAndType 54 12), (0, u "PORT"), (0, .integer 2147483647), (0, .methodref 7 57), (0, .nameAndType 58 59), (0, u "takesValue"), (0, u "()Z"), (0, .methodref 7 61), (0, .nameAndType 62 63), (0, u "placeholder"), (0, u "()Ljava/lang/String;"), (0, .class_ 65), (0, u "com/example/linkwright/linkwright/program/OptionTakesValuePinLaw"), (2, u "law"), (0, u "(I)Z")] 5

def k1m0 : Method := { name := "<init>", desc := "()V", sig := { parameters := [], returnType := none }, accessFlags := 2, code := none }
def k1c1 : Code := { maxStack := 4, maxLocals := 5, code := code, exceptionTable := #[], attributes := #[] }
def k1m1 : Method := { name := "law", desc := "(I)Z", sig := { parameters := [.int], returnType := some .boolean }, accessFlags := 9, code := some k1c1 }
/-- com/example/linkwright/linkwright/program/OptionTakesValuePinLaw -/
def k1 : Class := { plain "com/example/linkwright/linkwright/program/OptionTakesValuePinLaw" (some 0) with
  accessFlags := 49
  interfaces := #[]
  cf := some (fileOf pool1 64 #[] #[{ accessFlags := 2, nameIndex := 5, descriptorIndex := 6, attributes := #[] }, { accessFlags := 9, nameIndex := 68, descriptorIndex := 69, attributes := #[] }] 49 2 #[] #[])
  fields := #[]
  methods := #[k1m0, k1m1]
  instanceTypes := #[]
  staticTypes := #[]
  resolved := Array.replicate 75 none
  statics := none }

def pool2 : Array CpInfo := pool [(1, .class_ 2), (0, u "java/lang/constant/Constable"), (0, .class_ 4), (0, u "java/lang/Object")] 6

/-- java/lang/constant/Constable -/
def k2 : Class := { plain "java/lang/constant/Constable" (some 0) with
  accessFlags := 1537
  interfaces := #[]
  cf := some (fileOf pool2 1 #[] #[] 1537 3 #[] #[])
  fields := #[]
  methods := #[]
  instanceTypes := #[]
  staticTypes := #[]
  resolved := Array.replicate 11 none
  statics := none }

def pool3 : Array CpInfo := pool [(1, .class_ 2), (0, u "java/lang/Comparable"), (0, .class_ 4), (0, u "java/lang/Object")] 7

/-- java/lang/Comparable -/
def k3 : Class := { plain "java/lang/Comparable" (some 0) with
  accessFlags := 1537
  interfaces := #[]
  cf := some (fileOf pool3 1 #[] #[] 1537 3 #[] #[])
  fields := #[]
  methods := #[]
  instanceTypes := #[]
  staticTypes := #[]
  resolved := Array.replicate 12 none
  statics := none }

def pool4 : Array CpInfo := pool [(1, .class_ 2), (0, u "java/io/Serializable"), (0, .class_ 4), (0, u "java/lang/Object")] 2

/-- java/io/Serializable -/
def k4 : Class := { plain "java/io/Serializable" (some 0) with
  accessFlags := 1537
  interfaces := #[]
  cf := some (fileOf pool4 1 #[] #[] 1537 3 #[] #[])
  fields := #[]
  methods := #[]
  instanceTypes := #[]
  staticTypes := #[]
  resolved := Array.replicate 7 none
  statics := none }

def pool5 : Array CpInfo := pool [(2, .class_ 4), (1, u "java/lang/Enum"), (0, u "name"), (0, u "Ljava/lang/String;"), (2, u "ordinal"), (0, u "I"), (1, .class_ 14), (1, u "java/lang/Object"), (4, u "hash"), (86, .class_ 108), (1, u "java/lang/Enum$EnumDesc"), (2, .class_ 112), (0, u "java/lang/constant/Constable"), (0, .class_ 114), (0, u "java/lang/Comparable"), (0, .class_ 116), (0, u "java/io/Serializable")] 87

/-- java/lang/Enum -/
def k5 : Class := { plain "java/lang/Enum" (some 0) with
  accessFlags := 1057
  interfaces := #[2, 3, 4]
  cf := some (fileOf pool5 2 #[.nestMembers #[106]] #[] 1057 12 #[111, 113, 115] #[{ accessFlags := 18, nameIndex := 5, descriptorIndex := 6, attributes := #[] }, { accessFlags := 18, nameIndex := 9, descriptorIndex := 10, attributes := #[] }, { accessFlags := 2, nameIndex := 19, descriptorIndex := 10, attributes := #[] }])
  fields := #[{ name := "name", type := (.object "java/lang/String"), accessFlags := 18, slot := 0, constantValue := 0 }, { name := "ordinal", type := .int, accessFlags := 18, slot := 1, constantValue := 0 }, { name := "hash", type := .int, accessFlags := 2, slot := 2, constantValue := 0 }]
  methods := #[]
  instanceTypes := #[(.object "java/lang/String"), .int, .int]
  staticTypes := #[]
  resolved := Array.replicate 204 none
  statics := none }

def pool6 : Array CpInfo := pool [(1, .class_ 2), (0, u "com/example/linkwright/linkwright/program/Option"), (2, u "REGISTRY"), (0, u "Lcom/example/linkwright/linkwright/program/Option;"), (2, u "REMOTE"), (2, u "REQUEST"), (2, u "PLAN"), (2, u "WSC08"), (2, u "OBJECTIVE"), (2, u "ALL"), (2, u "MAX"), (2, u "DEADLINE"), (2, u "CONSUMES"), (2, u "PRODUCES"), (2, u "INVOKABLE_WITH"), (2, u "NAMED"), (2, u "HOST"), (2, u "PORT"), (2, u "$VALUES"), (0, u "[Lcom/example/linkwright/linkwright/program/Option;"), (6, .class_ 61), (1, u "java/lang/Enum"), (8, u "name"), (0, u "Ljava/lang/String;"), (0, .fieldref 1 73), (0, .nameAndType 74 71), (0, u "placeholder"), (2, u "what"), (2, u "repeats"), (0, u "Z"), (135, u "NAME_SEPARATOR"), (13, u "()Ljava/lang/String;"), (1, u "takesValue"), (0, u "()Z")] 26

def k6c0 : Code := { maxStack := 1, maxLocals := 1, code := prog_77_method_8_code, exceptionTable := #[], attributes := #[] }
def k6m0 : Method := { name := "placeholder", desc := "()Ljava/lang/String;", sig := { parameters := [], returnType := some (.object "java/lang/String") }, accessFlags := 0, code := some k6c0 }
def k6c1 : Code := { maxStack := 1, maxLocals := 1, code := prog_77_method_10_code, exceptionTable := #[], attributes := #[] }
def k6m1 : Method := { name := "takesValue", desc := "()Z", sig := { parameters := [], returnType := some .boolean }, accessFlags := 0, code := some k6c1 }
/-- com/example/linkwright/linkwright/program/Option -/
def k6 : Class := { plain "com/example/linkwright/linkwright/program/Option" (some 5) with
  accessFlags := 16432
  interfaces := #[]
  cf := some (fileOf pool6 1 #[] #[{ accessFlags := 0, nameIndex := 74, descriptorIndex := 231, attributes := #[] }, { accessFlags := 0, nameIndex := 233, descriptorIndex := 234, attributes := #[] }] 16432 59 #[] #[{ accessFlags := 16409, nameIndex := 5, descriptorIndex := 6, attributes := #[] }, { accessFlags := 16409, nameIndex := 9, descriptorIndex := 6, attributes := #[] }, { accessFlags := 16409, nameIndex := 12, descriptorIndex := 6, attributes := #[] }, { accessFlags := 16409, nameIndex := 15, descriptorIndex := 6, attributes := #[] }, { accessFlags := 16409, nameIndex := 18, descriptorIndex := 6, attributes := #[] }, { accessFlags := 16409, nameIndex := 21, descriptorIndex := 6, attributes := #[] }, { accessFlags := 16409, nameIndex := 24, descriptorIndex := 6, attributes := #[] }, { accessFlags := 16409, nameIndex := 27, descriptorIndex := 6, attributes := #[] }, { accessFlags := 16409, nameIndex := 30, descriptorIndex := 6, attributes := #[] }, { accessFlags := 16409, nameIndex := 33, descriptorIndex := 6, attributes := #[] }, { accessFlags := 16409, nameIndex := 36, descriptorIndex := 6, attributes := #[] }, { accessFlags := 16409, nameIndex := 39, descriptorIndex := 6, attributes := #[] }, { accessFlags := 16409, nameIndex := 42, descriptorIndex := 6, attributes := #[] }, { accessFlags := 16409, nameIndex := 45, descriptorIndex := 6, attributes := #[] }, { accessFlags := 16409, nameIndex := 48, descriptorIndex := 6, attributes := #[] }, { accessFlags := 24, nameIndex := 217, descriptorIndex := 71, attributes := #[] }, { accessFlags := 18, nameIndex := 70, descriptorIndex := 71, attributes := #[] }, { accessFlags := 18, nameIndex := 74, descriptorIndex := 71, attributes := #[] }, { accessFlags := 18, nameIndex := 77, descriptorIndex := 71, attributes := #[] }, { accessFlags := 18, nameIndex := 80, descriptorIndex := 81, attributes := #[] }, { accessFlags := 4122, nameIndex := 51, descriptorIndex := 52, attributes := #[] }])
  fields := #[{ name := "REGISTRY", type := (.object "com/example/linkwright/linkwright/program/Option"), accessFlags := 16409, slot := 0, constantValue := 0 }, { name := "REMOTE", type := (.object "com/example/linkwright/linkwright/program/Option"), accessFlags := 16409, slot := 1, constantValue := 0 }, { name := "REQUEST", type := (.object "com/example/linkwright/linkwright/program/Option"), accessFlags := 16409, slot := 2, constantValue := 0 }, { name := "PLAN", type := (.object "com/example/linkwright/linkwright/program/Option"), accessFlags := 16409, slot := 3, constantValue := 0 }, { name := "WSC08", type := (.object "com/example/linkwright/linkwright/program/Option"), accessFlags := 16409, slot := 4, constantValue := 0 }, { name := "OBJECTIVE", type := (.object "com/example/linkwright/linkwright/program/Option"), accessFlags := 16409, slot := 5, constantValue := 0 }, { name := "ALL", type := (.object "com/example/linkwright/linkwright/program/Option"), accessFlags := 16409, slot := 6, constantValue := 0 }, { name := "MAX", type := (.object "com/example/linkwright/linkwright/program/Option"), accessFlags := 16409, slot := 7, constantValue := 0 }, { name := "DEADLINE", type := (.object "com/example/linkwright/linkwright/program/Option"), accessFlags := 16409, slot := 8, constantValue := 0 }, { name := "CONSUMES", type := (.object "com/example/linkwright/linkwright/program/Option"), accessFlags := 16409, slot := 9, constantValue := 0 }, { name := "PRODUCES", type := (.object "com/example/linkwright/linkwright/program/Option"), accessFlags := 16409, slot := 10, constantValue := 0 }, { name := "INVOKABLE_WITH", type := (.object "com/example/linkwright/linkwright/program/Option"), accessFlags := 16409, slot := 11, constantValue := 0 }, { name := "NAMED", type := (.object "com/example/linkwright/linkwright/program/Option"), accessFlags := 16409, slot := 12, constantValue := 0 }, { name := "HOST", type := (.object "com/example/linkwright/linkwright/program/Option"), accessFlags := 16409, slot := 13, constantValue := 0 }, { name := "PORT", type := (.object "com/example/linkwright/linkwright/program/Option"), accessFlags := 16409, slot := 14, constantValue := 0 }, { name := "NAME_SEPARATOR", type := (.object "java/lang/String"), accessFlags := 24, slot := 15, constantValue := 0 }, { name := "name", type := (.object "java/lang/String"), accessFlags := 18, slot := 3, constantValue := 0 }, { name := "placeholder", type := (.object "java/lang/String"), accessFlags := 18, slot := 4, constantValue := 0 }, { name := "what", type := (.object "java/lang/String"), accessFlags := 18, slot := 5, constantValue := 0 }, { name := "repeats", type := .boolean, accessFlags := 18, slot := 6, constantValue := 0 }, { name := "$VALUES", type := (.array (.object "com/example/linkwright/linkwright/program/Option")), accessFlags := 4122, slot := 16, constantValue := 0 }]
  methods := #[k6m0, k6m1]
  instanceTypes := #[(.object "java/lang/String"), .int, .int, (.object "java/lang/String"), (.object "java/lang/String"), (.object "java/lang/String"), .boolean]
  staticTypes := #[(.object "com/example/linkwright/linkwright/program/Option"), (.object "com/example/linkwright/linkwright/program/Option"), (.object "com/example/linkwright/linkwright/program/Option"), (.object "com/example/linkwright/linkwright/program/Option"), (.object "com/example/linkwright/linkwright/program/Option"), (.object "com/example/linkwright/linkwright/program/Option"), (.object "com/example/linkwright/linkwright/program/Option"), (.object "com/example/linkwright/linkwright/program/Option"), (.object "com/example/linkwright/linkwright/program/Option"), (.object "com/example/linkwright/linkwright/program/Option"), (.object "com/example/linkwright/linkwright/program/Option"), (.object "com/example/linkwright/linkwright/program/Option"), (.object "com/example/linkwright/linkwright/program/Option"), (.object "com/example/linkwright/linkwright/program/Option"), (.object "com/example/linkwright/linkwright/program/Option"), (.object "java/lang/String"), (.array (.object "com/example/linkwright/linkwright/program/Option"))]
  resolved := Array.replicate 261 none
  statics := some 0 }

def pool7 : Array CpInfo := pool [(2, .class_ 4), (1, u "java/lang/CharSequence"), (42, .class_ 48), (0, u "java/lang/CharSequence$1CodePointIterator"), (10, .class_ 60), (0, u "java/lang/CharSequence$1CharIterator"), (5, .class_ 67), (0, u "java/lang/Object")] 63

/-- java/lang/CharSequence -/
def k7 : Class := { plain "java/lang/CharSequence" (some 0) with
  accessFlags := 1537
  interfaces := #[]
  cf := some (fileOf pool7 2 #[.nestMembers #[47, 59]] #[] 1537 66 #[] #[])
  fields := #[]
  methods := #[]
  instanceTypes := #[]
  staticTypes := #[]
  resolved := Array.replicate 131 none
  statics := none }

def pool8 : Array CpInfo := pool [(1, .class_ 2), (0, u "java/lang/constant/ConstantDesc"), (0, .class_ 4), (0, u "java/lang/Object")] 32

/-- java/lang/constant/ConstantDesc -/
def k8 : Class := { plain "java/lang/constant/ConstantDesc" (some 0) with
  accessFlags := 1537
  interfaces := #[]
  cf := some (fileOf pool8 1 #[] #[] 1537 3 #[] #[])
  fields := #[]
  methods := #[]
  instanceTypes := #[]
  staticTypes := #[]
  resolved := Array.replicate 37 none
  statics := none }

def pool9 : Array CpInfo := pool [(2, .class_ 4), (1, u "java/lang/Object"), (0, u "<init>"), (0, u "()V"), (3, .class_ 12), (1, u "java/lang/String"), (0, u "value"), (0, u "[B"), (2, u "coder"), (0, u "B"), (2, u "hash"), (0, u "I"), (2, u "hashIsZero"), (0, u "Z"), (13, u "COMPACT_STRINGS"), (534, .class_ 576), (0, u "java/lang/CharSequence"), (22, u "CASE_INSENSITIVE_ORDER"), (0, u "Ljava/util/Comparator;"), (500, u "serialPersistentFields"), (0, u "[Ljava/io/ObjectStreamField;"), (0, .class_ 1104), (0, u "java/lang/String$CaseInsensitiveComparator"), (1, .class_ 1107), (0, u "java/io/Serializable"), (0, .class_ 1109), (0, u "java/lang/Comparable"), (0, .class_ 1111), (0, u "java/lang/constant/Constable"), (0, .class_ 1113), (0, u "java/lang/constant/ConstantDesc"), (2, u "serialVersionUID"), (0, u "J"), (3, u "REPL"), (0, u "C"), (2, u "LATIN1"), (1, u "UTF16")] 323

def k9m0 : Method := { name := "<init>", desc := "()V", sig := { parameters := [], returnType := none }, accessFlags := 1, code := none }
/-- java/lang/String -/
def k9 : Class := { plain "java/lang/String" (some 0) with
  accessFlags := 49
  interfaces := #[4, 3, 7, 2, 8]
  cf := some (fileOf pool9 10 #[.nestMembers #[1103]] #[{ accessFlags := 1, nameIndex := 5, descriptorIndex := 6, attributes := #[] }] 49 2 #[1106, 1108, 575, 1110, 1112] #[{ accessFlags := 18, nameIndex := 13, descriptorIndex := 14, attributes := #[] }, { accessFlags := 18, nameIndex := 17, descriptorIndex := 18, attributes := #[] }, { accessFlags := 2, nameIndex := 21, descriptorIndex := 22, attributes := #[] }, { accessFlags := 2, nameIndex := 25, descriptorIndex := 26, attributes := #[] }, { accessFlags := 26, nameIndex := 1116, descriptorIndex := 1117, attributes := #[] }, { accessFlags := 24, nameIndex := 40, descriptorIndex := 26, attributes := #[] }, { accessFlags := 26, nameIndex := 1101, descriptorIndex := 1102, attributes := #[] }, { accessFlags := 26, nameIndex := 1121, descriptorIndex := 1122, attributes := #[] }, { accessFlags := 25, nameIndex := 599, descriptorIndex := 600, attributes := #[] }, { accessFlags := 24, nameIndex := 1125, descriptorIndex := 18, attributes := #[] }, { accessFlags := 24, nameIndex := 1127, descriptorIndex := 18, attributes := #[] }])
  fields := #[{ name := "value", type := (.array .byte), accessFlags := 18, slot := 0, constantValue := 0 }, { name := "coder", type := .byte, accessFlags := 18, slot := 1, constantValue := 0 }, { name := "hash", type := .int, accessFlags := 2, slot := 2, constantValue := 0 }, { name := "hashIsZero", type := .boolean, accessFlags := 2, slot := 3, constantValue := 0 }, { name := "serialVersionUID", type := .long, accessFlags := 26, slot := 0, constantValue := 0 }, { name := "COMPACT_STRINGS", type := .boolean, accessFlags := 24, slot := 1, constantValue := 0 }, { name := "serialPersistentFields", type := (.array (.object "java/io/ObjectStreamField")), accessFlags := 26, slot := 2, constantValue := 0 }, { name := "REPL", type := .char, accessFlags := 26, slot := 3, constantValue := 0 }, { name := "CASE_INSENSITIVE_ORDER", type := (.object "java/util/Comparator"), accessFlags := 25, slot := 4, constantValue := 0 }, { name := "LATIN1", type := .byte, accessFlags := 24, slot := 5, constantValue := 0 }, { name := "UTF16", type := .byte, accessFlags := 24, slot := 6, constantValue := 0 }]
  methods := #[k9m0]
  instanceTypes := #[(.array .byte), .byte, .int, .boolean]
  staticTypes := #[.long, .boolean, (.array (.object "java/io/ObjectStreamField")), .char, (.object "java/util/Comparator"), .byte, .byte]
  resolved := Array.replicate 1451 none
  statics := none }

def pool10 : Array CpInfo := pool [(1, u "java/lang/Cloneable"), (0, .class_ 1), (0, u "java/lang/Object"), (0, .class_ 3)] 3

/-- java/lang/Cloneable -/
def k10 : Class := { plain "java/lang/Cloneable" (some 0) with
  accessFlags := 1537
  interfaces := #[]
  cf := some (fileOf pool10 2 #[] #[] 1537 4 #[] #[])
  fields := #[]
  methods := #[]
  instanceTypes := #[]
  staticTypes := #[]
  resolved := Array.replicate 8 none
  statics := none }

/-- the primitive byte -/
def k11 : Class := { plain "byte" none with kind := .primitive 'B', accessFlags := 0x411 }
/-- [B -/
def k12 : Class := { plain "[B" (some 0) with kind := .array 11 .byte, interfaces := #[10, 4], accessFlags := 1041 }

/-- the primitive int -/
def k13 : Class := { plain "int" none with kind := .primitive 'I', accessFlags := 0x411 }
/-- [I -/
def k14 : Class := { plain "[I" (some 0) with kind := .array 13 .int, interfaces := #[10, 4], accessFlags := 1041 }

/-- [Lcom/example/linkwright/linkwright/program/Option; -/
def k15 : Class := { plain "[Lcom/example/linkwright/linkwright/program/Option;" (some 0) with kind := .array 6 (.object "com/example/linkwright/linkwright/program/Option"), interfaces := #[10, 4], accessFlags := 1041 }

def heap : Heap := #[{ cls := 6, slots := #[.ref 1, .ref 2, .ref 3, .ref 4, .ref 5, .ref 6, .ref 7, .ref 8, .ref 9, .ref 10, .ref 11, .ref 12, .ref 13, .ref 14, .ref 15, .null, .null], vm := .statics 6 },
  { cls := 6, slots := #[.null, .int 0, .int 0, .null, .ref 16, .null, .int 0], vm := .none },
  { cls := 6, slots := #[.null, .int 1, .int 0, .null, .ref 16, .null, .int 0], vm := .none },
  { cls := 6, slots := #[.null, .int 2, .int 0, .null, .ref 16, .null, .int 0], vm := .none },
  { cls := 6, slots := #[.null, .int 3, .int 0, .null, .ref 16, .null, .int 0], vm := .none },
  { cls := 6, slots := #[.null, .int 4, .int 0, .null, .ref 16, .null, .int 0], vm := .none },
  { cls := 6, slots := #[.null, .int 5, .int 0, .null, .ref 16, .null, .int 0], vm := .none },
  { cls := 6, slots := #[.null, .int 6, .int 0, .null, .null, .null, .int 0], vm := .none },
  { cls := 6, slots := #[.null, .int 7, .int 0, .null, .ref 16, .null, .int 0], vm := .none },
  { cls := 6, slots := #[.null, .int 8, .int 0, .null, .ref 16, .null, .int 0], vm := .none },
  { cls := 6, slots := #[.null, .int 9, .int 0, .null, .ref 16, .null, .int 0], vm := .none },
  { cls := 6, slots := #[.null, .int 10, .int 0, .null, .ref 16, .null, .int 0], vm := .none },
  { cls := 6, slots := #[.null, .int 11, .int 0, .null, .ref 16, .null, .int 0], vm := .none },
  { cls := 6, slots := #[.null, .int 12, .int 0, .null, .ref 16, .null, .int 0], vm := .none },
  { cls := 6, slots := #[.null, .int 13, .int 0, .null, .ref 16, .null, .int 0], vm := .none },
  { cls := 6, slots := #[.null, .int 14, .int 0, .null, .ref 16, .null, .int 0], vm := .none },
  { cls := 9, slots := #[.null, .int 0, .int 0, .int 0], vm := .none }]
def classes : Array Class := #[k0, k1, k2, k3, k4, k5, k6, k7, k8, k9, k10, k11, k12, k13, k14, k15]
def interned : List (Array UInt16 × Addr) := []
def slotsUsed : Nat := 126
def theMethod : MethodId := ⟨1, 1⟩
def args0 : Array Value := #[.int 5]
def aboutOver (below : List Frame) : State where
  vm := { classes := classes, interned := interned.toArray }
  heap := heap
  slotsUsed := slotsUsed
  threads := #[{ frames := .invoking theMethod args0 :: below }]
def below0 : List Frame := [.native { method := ⟨0, 0⟩, args := #[] }]
def about1 : State := aboutOver below0
def p0 : Program := .bare "" "" ""
def e0 : Env := launch0.env 0 0 0
theorem w_frames : about1.frames = Frame.invoking theMethod args0 :: below0 := rfl
set_option maxRecDepth 65536 in
theorem w_args : argsFit about1.vm theMethod args0 = true := by decide +kernel
set_option maxRecDepth 65536 in
theorem w_heap : heapFits about1 = true := by decide +kernel
set_option maxRecDepth 65536 in
theorem w_runnable : about1.curStatus? = some .runnable := by decide +kernel
set_option maxRecDepth 65536 in
theorem w_alone : about1.alone = true := by decide +kernel
set_option maxRecDepth 65536 in
theorem w_named : about1.methodNamed? x = some theMethod := by decide +kernel
set_option maxRecDepth 65536 in
theorem w_hears : about1.hears theMethod below0 = true := by decide +kernel
set_option maxRecDepth 65536 in
theorem w_ripe : about1.ripe theMethod args0 below0 = true := by decide +kernel
theorem w_running : about1.status = .running := rfl
set_option maxRecDepth 65536 in
theorem w_room : about1.hasRoom e0.platform room_1 = true :=
  launch0.hasRoom_least _ room_1 (by decide +kernel) (by decide +kernel) (by decide +kernel) (by decide +kernel) (by decide +kernel) (by decide +kernel)
theorem allAtoms_all (ts : List Jvm.Cond) (a : Array Jvm.Value) (st : Jvm.State) : (allAtoms ts).before a st = ts.all (fun c => c.before a st) := by
  induction ts with
  | nil => rfl
  | cons c t ih =>
    show (Jvm.Cond.and c (allAtoms t)).before a st = _
    rw [Jvm.Cond.before_and, ih, List.all_cons]
def words1 : List Jvm.Cond := Jvm.Cond.code x code maxLocals ret :: tables_1
/-- a 'code' word, met by the world's own term for the bytes: nothing is compared byte by byte -/
theorem code_word {y : MethodName} {bytes : ByteArray} {mx : Nat} {rt : Option FieldType} {a : Array Value} {s : State} {m : MethodId} {meth : Method} {c : Code} (h1 : s.methodNamed? y = some m) (h2 : s.vm.method? m = some meth) (h3 : meth.code = some c) (h4 : c.code = bytes)
    (h5 : (c.maxLocals == mx && c.exceptionTable.isEmpty && decide (c.maxStack ≤ mostOperands) && decide (meth.sig.returnType = rt) && !meth.locks && decide (parseMethodDescriptor y.desc = some meth.sig)) = true) : (Jvm.Cond.code y bytes mx rt).before a s = true := by
  simp only [Bool.and_eq_true, beq_iff_eq, Bool.not_eq_true', decide_eq_true_eq] at h5
  obtain ⟨⟨⟨⟨⟨g1, g2⟩, g3⟩, g4⟩, g5⟩, g6⟩ := h5
  simp [Cond.before, Cond.holds, Cond.value, h1, h2, h3, h4, g1, g2, g3, g4, g5, g6]
def isCode : Jvm.Cond → Bool
  | .code _ _ _ _ => true
  | _ => false
theorem all_split {L : List Jvm.Cond} {P : Jvm.Cond → Bool} (h1 : L.all (fun c => isCode c || P c) = true) (h2 : ∀ c ∈ L.filter isCode, P c = true) : L.all P = true := by
  refine List.all_eq_true.mpr fun c hc => ?_
  have h := List.all_eq_true.mp h1 c hc
  rcases Bool.eq_false_or_eq_true (isCode c) with hi | hi
  · exact h2 c (List.mem_filter.mpr ⟨hc, hi⟩)
  · simpa [hi] using h
set_option maxRecDepth 65536 in
theorem w_c0 : (Jvm.Cond.code x code maxLocals ret).before args0 about1 = true := code_word (m := ⟨1, 1⟩) (meth := k1m1) (c := k1c1) (by decide +kernel) rfl rfl rfl (by decide +kernel)
set_option maxRecDepth 65536 in
theorem w_c1 : (Jvm.Cond.code ({ cls := "com/example/linkwright/linkwright/program/Option", name := "takesValue", desc := "()Z" } : Jvm.MethodName) prog_77_method_10_code (1 : Nat) (Option.some Jvm.ClassFile.FieldType.boolean)).before args0 about1 = true := code_word (m := ⟨6, 1⟩) (meth := k6m1) (c := k6c1) (by decide +kernel) rfl rfl rfl (by decide +kernel)
set_option maxRecDepth 65536 in
theorem w_c2 : (Jvm.Cond.code ({ cls := "com/example/linkwright/linkwright/program/Option", name := "placeholder", desc := "()Ljava/lang/String;" } : Jvm.MethodName) prog_77_method_8_code (1 : Nat) (Option.some (Jvm.ClassFile.FieldType.object "java/lang/String"))).before args0 about1 = true := code_word (m := ⟨6, 0⟩) (meth := k6m0) (c := k6c0) (by decide +kernel) rfl rfl rfl (by decide +kernel)
def codes1 : List Jvm.Cond := [Jvm.Cond.code x code maxLocals ret, Jvm.Cond.code ({ cls := "com/example/linkwright/linkwright/program/Option", name := "takesValue", desc := "()Z" } : Jvm.MethodName) prog_77_method_10_code (1 : Nat) (Option.some Jvm.ClassFile.FieldType.boolean), Jvm.Cond.code ({ cls := "com/example/linkwright/linkwright/program/Option", name := "placeholder", desc := "()Ljava/lang/String;" } : Jvm.MethodName) prog_77_method_8_code (1 : Nat) (Option.some (Jvm.ClassFile.FieldType.object "java/lang/String"))]
set_option maxRecDepth 65536 in
theorem codes_eq : words1.filter isCode = codes1 := rfl
theorem w_codes : ∀ c ∈ words1.filter isCode, c.before args0 about1 = true := by
  rw [codes_eq]
  intro c hc
  simp only [codes1, List.mem_cons, List.not_mem_nil, or_false] at hc
  rcases hc with rfl | rfl | rfl
  · exact w_c0
  · exact w_c1
  · exact w_c2
set_option maxRecDepth 65536 in
theorem w_t1 : (words1.take 24).all (fun c => isCode c || c.before args0 about1) = true := by decide +kernel
set_option maxRecDepth 65536 in
theorem w_t2 : (words1.drop 24).all (fun c => isCode c || c.before args0 about1) = true := by decide +kernel
theorem w_tables : (allAtoms (Jvm.Cond.code x code maxLocals ret :: tables_1)).before args0 about1 = true := by
  rw [allAtoms_all]
  show words1.all (fun c => c.before args0 about1) = true
  refine all_split ?_ w_codes
  rw [← List.take_append_drop 24 words1, List.all_append, w_t1, w_t2]
  rfl
set_option maxRecDepth 65536 in
theorem w_case : (Jvm.Cond.and given_1 narrow_1).before args0 about1 = true := by decide +kernel
theorem w_applies : (headSpec (Jvm.Cond.code x code maxLocals ret :: tables_1) room_1).applies x e0.platform about1 = true :=
  (Spec.applies_iff w_frames).mpr ⟨w_running, w_runnable, w_alone, w_named, w_hears, w_ripe, w_room, w_tables⟩
theorem atStart : AtStart classFile x code maxLocals ret World_1 tables_1 room_1 Calls_1 rest_1 Pre_1 launch0 p0 e0 about1 theMethod args0 below0 :=
  ⟨lists_1, trivial, launch0.admits_env _ _ _, launch0.least_env, fairChoices_fair.cas, fairChoices_fair.clock, w_frames, w_args, w_heap, w_applies, trivial, trivial, w_case⟩
end start1
theorem witness_1 : WitnessClaimed_1 := ⟨start1.p0, start1.e0, start1.about1, start1.theMethod, start1.args0, start1.below0, start1.atStart⟩
end Jvm.Pilot.@@N@@
