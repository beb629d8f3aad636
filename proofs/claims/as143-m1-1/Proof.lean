import JvmDerived
import JvmDerived.Pilot.@@N@@Statement
import JvmDerived.Pilot.@@N@@Code
set_option linter.unusedVariables false
set_option linter.unusedSimpArgs false
namespace Jvm.Pilot.@@N@@
open Jvm Jvm.ClassFile Sem Op Lib Jvm.Free Jvm.Stand Jvm.LawKit Jvm.RoadKit Bundle Jvm.Pilot.@@N@@.Jvm.D
def own_End (p : Program) (e : Env) (below : List Frame) (G : Outcome → State → Prop) (T : State) : Prop := ∃ s₂ o, Steps p.tables e below T s₂ ∧ s₂.status = .running ∧ Ended s₂ below o ∧ G o s₂
theorem own_by {p : Program} {e : Env} {below : List Frame} {G : Outcome → State → Prop} {T T' : State} (h : ∀ t, Steps p.tables e below T' t → Steps p.tables e below T t) (k : own_End p e below G T') : own_End p e below G T := by
  obtain ⟨s₂, o, h1, h2⟩ := k
  exact ⟨s₂, o, h _ h1, h2⟩
abbrev own_Met (l : Launch) (Z : State) (y : MethodName) (bytes : ByteArray) (maxL : Nat) (rt : Option FieldType) (ws : List Jvm.Cond) (rm : Room) (as' : Array Value) (h0 : Heap) (Q : Option Value → Heap → List Loc → Prop) : Prop :=
  MetFree l y (head1 (Jvm.Cond.code y bytes maxL rt :: ws) rm) (fun a U => a = as' ∧ Z.Warmed39 U.vm ∧ U.heap = h0) (fun _ _ _ _ _ => True) (fun _ U o U' => ∃ v L, o = .returned v ∧ Q v U'.heap L ∧ FrameEnd U o U' L rm.cells rm.slots)
theorem own_back {p : Program} {l : Launch} {e : Env} {R : Room} {s Z : State} {args a0 : Array Value} {below : List Frame} {h : Heap} {y : MethodName} {bytes : ByteArray} {maxL : Nat} {rt : Option FieldType} {rm : Room} {len W : Nat} {as' : Array Value} {Q : Option Value → Heap → List Loc → Prop}
    (hM : own_Met l Z y bytes maxL rt [] rm as' h Q) (hZ : Z.Warmed39 s.vm) (wc : (Cond.code y bytes maxL rt).before a0 Z = true) (wz : (Cond.initialized y.cls).before a0 Z = true) (hf : rm.frames + 1 ≤ R.frames) (hl : W + (maxL + 11) + rm.locals ≤ R.locals) :
    Back l R p e below s args y len W (fun A a => a = as' ∧ A.U.heap = h ∧ A.cells + rm.cells ≤ R.cells ∧ A.slots + rm.slots ≤ R.slots) (fun A _ v B => ∃ L, Q v B.U.heap L ∧ B.locs = A.locs ++ L ∧ B.cells = A.cells + rm.cells ∧ B.slots = A.slots + rm.slots) :=
  backOf (Q := Q) hM hZ wc wz hf hl
theorem own_intEq {t : Term} {k : Int32} {args : Array Value} {s : State} (h : (Cond.eq t (Term.int k)).value args s none s [] = some true) : t.eval args s none [] s = some (.int k) := by
  simp only [Cond.value, Term.eval] at h
  cases ht : t.eval args s none [] s with
  | none => simp [ht] at h
  | some x => cases x <;> simp [ht] at h ⊢; exact h
theorem own_ext {a b c : Heap} (O : Ext a b) (E : Ext b c) : Ext a c := ⟨Nat.le_trans O.1 E.1, fun x q r => E.2 x q (O.2 x q r)⟩
theorem own_extW {b h h' : Heap} {a : Addr} {sl : Nat} {v : Value} (O : Ext b h) (W : Wr h h' a sl v) (q : b.size ≤ a) : Ext b h' :=
  ⟨Nat.le_trans O.1 (Keep.of_wr W).1, fun x c r => (Keep.of_wr W).2.1 x c (O.2 x c r) (ninS (Nat.ne_of_lt (Nat.lt_of_lt_of_le (Array.getElem?_eq_some_iff.mp r).1 q)) nin0)⟩
theorem own_rw {s t : State} {o : Outcome} {L : List Loc} {k n k' n' : Nat} (h : ReturnedEndW s o t L k n) (hk : k ≤ k') (hn : n ≤ n') : ReturnedEndW s o t L k' n' := ⟨h.1, h.2.1, h.2.2.1, h.2.2.2.mono hk hn⟩
abbrev own_MetW (l : Launch) (Z : State) (y : MethodName) (bytes : ByteArray) (maxL : Nat) (rt : Option FieldType) (ws : List Jvm.Cond) (rm : Room) (as' : Array Value) (h0 : Heap) (Q : Option Value → Heap → List Loc → Prop) : Prop :=
  MetFree l y (head1 (Jvm.Cond.code y bytes maxL rt :: ws) rm) (fun a U => a = as' ∧ Z.Warmed39 U.vm ∧ U.heap = h0) (fun _ _ _ _ _ => True) (fun _ U o U' => ∃ v L, o = .returned v ∧ Q v U'.heap L ∧ ReturnedEndW U o U' L rm.cells rm.slots)
theorem own_backS {p : Program} {l : Launch} {e : Env} {R : Room} {s Z : State} {args a0 : Array Value} {below : List Frame} {h : Heap} {y : MethodName} {bytes : ByteArray} {maxL : Nat} {rt : Option FieldType} {rm : Room} {len W : Nat} {as' : Array Value} {Q : Option Value → Heap → List Loc → Prop}
    (hM : own_MetW l Z y bytes maxL rt [] rm as' h Q) (hZ : Z.Warmed39 s.vm) (wc : (Cond.code y bytes maxL rt).before a0 Z = true) (wz : (Cond.initialized y.cls).before a0 Z = true) (hf : rm.frames + 1 ≤ R.frames) (hl : W + (maxL + 11) + rm.locals ≤ R.locals) :
    BackS l R p e below s args y len W (fun A a => a = as' ∧ A.U.heap = h ∧ A.cells + rm.cells ≤ R.cells ∧ A.slots + rm.slots ≤ R.slots) (fun A _ v B => ∃ L, Q v B.U.heap L ∧ B.locs = A.locs ++ L ∧ B.cells = A.cells + rm.cells ∧ B.slots = A.slots + rm.slots) :=
  backOfS (Q := Q) hM hZ wc wz hf hl
theorem own_join {p : Program} {e : Env} {below : List Frame} {G : Outcome → State → Prop} {T : State} (K : (State → Prop) → Prop) (h1 : K (own_End p e below G) → own_End p e below G T) (h2 : K (own_End p e below G)) : own_End p e below G T := h1 h2
def own_rf (v : Value) : Prop := v = .null ∨ ∃ a, v = .ref a
theorem own_rf.is {v : Value} (h : own_rf v) : v.isRef = true := by rcases h with rfl | ⟨a, rfl⟩ <;> rfl
theorem own_rf.cat {v : Value} (h : own_rf v) : v.category = 1 := by rcases h with rfl | ⟨a, rfl⟩ <;> rfl
theorem own_rf.nar {v : Value} (h : own_rf v) (K : String) : narrow (.object K) v = v := by rcases h with rfl | ⟨a, rfl⟩ <;> rfl
theorem own_rf.fit {v : Value} (h : own_rf v) (K : String) : fits (.object K) v = true := by rcases h with rfl | ⟨a, rfl⟩ <;> rfl
def own_sel (b g k : Int32) : Int32 := if b = 0 then g else k
def own_IV (Z : State) (h : Heap) (b g : Int32) (v : Value) : Prop := (b = 0 ∧ ∃ a, v = .ref a ∧ Exa Z h a "java/lang/Integer" ∧ Fld Z h a "java/lang/Integer" "value" "I" (.int g)) ∨ (¬ b = 0 ∧ v = .null)
theorem own_IV.ext {Z : State} {h h' : Heap} {b g : Int32} {v : Value} (F : own_IV Z h b g v) (E : Ext h h') : own_IV Z h' b g v := by
  rcases F with ⟨q, a, e, x, f⟩ | q
  · exact Or.inl ⟨q, a, e, x.ext E, f.ext E⟩
  · exact Or.inr q
theorem own_IV.rf {Z : State} {h : Heap} {b g : Int32} {v : Value} (F : own_IV Z h b g v) : own_rf v := by
  rcases F with ⟨q, a, e, x, f⟩ | q
  · exact Or.inr ⟨a, e⟩
  · exact Or.inl q.2
theorem own_pick {Z : State} {h : Heap} {b g k : Int32} {v : Value} {x d : Addr} (F : own_IV Z h b g v) (r : (v = .null ∧ x = d) ∨ v = .ref x) (Ed : Exa Z h d "java/lang/Integer") (Fd : Fld Z h d "java/lang/Integer" "value" "I" (.int k)) :
    Exa Z h x "java/lang/Integer" ∧ Fld Z h x "java/lang/Integer" "value" "I" (.int (own_sel b g k)) := by
  rcases F with ⟨q, a, rfl, e, f⟩ | ⟨q, rfl⟩
  · rcases r with ⟨r, -⟩ | r
    · cases r
    · cases r; exact ⟨e, by rw [own_sel, if_pos q]; exact f⟩
  · rcases r with ⟨-, rfl⟩ | r
    · exact ⟨Ed, by rw [own_sel, if_neg q]; exact Fd⟩
    · cases r
def own_WRf (Z : State) (h : Heap) (a : Addr) (k1 k2 k3 k4 : Int32) : Prop := Exa Z h a "com/example/hongdae/hongdae/sale/WaitingRoom" ∧ Fld Z h a "com/example/hongdae/hongdae/sale/WaitingRoom" "admitPerTick" "I" (.int k1) ∧ Fld Z h a "com/example/hongdae/hongdae/sale/WaitingRoom" "tickSeconds" "I" (.int k2) ∧ Fld Z h a "com/example/hongdae/hongdae/sale/WaitingRoom" "maxActive" "I" (.int k3) ∧ Fld Z h a "com/example/hongdae/hongdae/sale/WaitingRoom" "activeSeconds" "I" (.int k4)
theorem own_WRf.ext {Z : State} {h h' : Heap} {a : Addr} {k1 k2 k3 k4 : Int32} (F : own_WRf Z h a k1 k2 k3 k4) (E : Ext h h') : own_WRf Z h' a k1 k2 k3 k4 := ⟨F.1.ext E, F.2.1.ext E, F.2.2.1.ext E, F.2.2.2.1.ext E, F.2.2.2.2.ext E⟩
def own_CHf (Z : State) (h : Heap) (a : Addr) (v1 v2 v3 v4 : Value) : Prop := Exa Z h a "com/example/hongdae/hongdae/sale/WaitingRoom$Change" ∧ Fld Z h a "com/example/hongdae/hongdae/sale/WaitingRoom$Change" "admitPerTick" "Ljava/lang/Integer;" v1 ∧ Fld Z h a "com/example/hongdae/hongdae/sale/WaitingRoom$Change" "tickSeconds" "Ljava/lang/Integer;" v2 ∧ Fld Z h a "com/example/hongdae/hongdae/sale/WaitingRoom$Change" "maxActive" "Ljava/lang/Integer;" v3 ∧ Fld Z h a "com/example/hongdae/hongdae/sale/WaitingRoom$Change" "activeSeconds" "Ljava/lang/Integer;" v4
theorem own_CHf.ext {Z : State} {h h' : Heap} {a : Addr} {v1 v2 v3 v4 : Value} (F : own_CHf Z h a v1 v2 v3 v4) (E : Ext h h') : own_CHf Z h' a v1 v2 v3 v4 := ⟨F.1.ext E, F.2.1.ext E, F.2.2.1.ext E, F.2.2.2.1.ext E, F.2.2.2.2.ext E⟩
def own_IC (Z : State) : Prop := ∃ (ca : Addr) (cl : Cell), Sta Z Z.heap "java/lang/Integer$IntegerCache" "high" "I" (.int 127) ∧ Sta Z Z.heap "java/lang/Integer$IntegerCache" "cache" "[Ljava/lang/Integer;" (.ref ca) ∧ Bxs Z ca cl "java/lang/Integer" "I" 256 (fun j => .int (j - 128))
theorem own_inb {i : Int32} (h1 : ¬ i < (-128 : Int32)) (h2 : ¬ (127 : Int32) < i) : ¬ (i + (128 : Int32)) < 0 ∧ (i + (128 : Int32)) < 256 ∧ i + (128 : Int32) - 128 = i := by
  rw [Int32.lt_iff_toInt_lt] at h1 h2
  have a1 : (-128 : Int32).toInt = -128 := rfl
  have a2 : (127 : Int32).toInt = 127 := rfl
  have a3 : (128 : Int32).toInt = 128 := rfl
  have a4 : (256 : Int32).toInt = 256 := rfl
  have a0 : (0 : Int32).toInt = 0 := rfl
  have q := c_iadd i 128
  have r := rng32 i
  have r' := rng32 (i + 128)
  refine ⟨?_, ?_, ?_⟩
  · rw [Int32.lt_iff_toInt_lt]; omega
  · rw [Int32.lt_iff_toInt_lt]; omega
  · rw [← Int32.toInt_inj]
    have q2 := c_isub (i + 128) 128
    have r2 := rng32 (i + 128 - 128)
    omega
theorem own_strs {Z : State} {a0 : Array Value} (hw : ∀ d ∈ tables_1, d.before a0 Z = true) : ∀ a ∈ Bundle.stringAtoms, a.before a0 Z = true := by
  intro a ha
  simp only [Bundle.stringAtoms, List.mem_cons, List.not_mem_nil, or_false] at ha
  rcases ha with rfl | rfl | rfl | rfl | rfl | rfl | rfl
  · exact hw _ (List.mem_of_getElem? (i := 76) rfl)
  · exact hw _ (List.mem_of_getElem? (i := 77) rfl)
  · exact hw _ (List.mem_of_getElem? (i := 78) rfl)
  · exact hw _ (List.mem_of_getElem? (i := 79) rfl)
  · exact hw _ (List.mem_of_getElem? (i := 80) rfl)
  · exact hw _ (List.mem_of_getElem? (i := 81) rfl)
  · exact hw _ (List.mem_of_getElem? (i := 82) rfl)
theorem own_len {t : Term} {a : Addr} {cl : Cell} {args : Array Value} {s : State} {k : Int32} (ev : t.eval args s none [] s = some (.ref a)) (ha : s.arrayAt? a = some cl) (h : (Term.length t).eval args s none [] s = some (.int k)) : cl.slots.size < 2 ^ 31 ∧ cl.slots.size.toInt32 = k := by
  by_cases q : cl.slots.size < 2 ^ 31
  · rw [len_f ev ha q] at h
    exact ⟨q, Value.int.inj (Option.some.inj h)⟩
  · simp [Term.eval, ev, ha, q] at h
theorem own_idx {C n d : String} {a : Addr} {args : Array Value} {s : State} (ev : (Term.static C n d).eval args s none [] s = some (.ref a)) (idx : List Nat) : (Term.static C n d).eval args s none idx s = some (.ref a) := ev
theorem own_subf {a b : Term} {x y : Int32} {args : Array Value} {s : State} {idx : List Nat} (ha : a.eval args s none idx s = some (.int x)) (hy : b.eval args s none idx s = some (.int y)) : (Term.sub a b).eval args s none idx s = some (.int (x - y)) := by simp [Term.eval, ha, hy]
theorem own_sub {j : Int32} {args : Array Value} {s : State} (hj : ¬ j < 0) : (Term.sub (Term.index 0) (Term.int 128)).eval args s none [j.toNatClampNeg] s = some (.int (j - 128)) := by
  exact own_subf (idx_at hj) (Term.int_eval 128)
theorem own_d_jdk_18_method_1_0 : decode jdk_18_method_1_code 0 = .ok (.aload_n 0, 1) := by decide +kernel
theorem own_d_jdk_18_method_1_1 : decode jdk_18_method_1_code 1 = .ok (.invokespecial 1, 3) := by decide +kernel
theorem own_d_jdk_18_method_1_4 : decode jdk_18_method_1_code 4 = .ok (.return_, 1) := by decide +kernel
theorem own_d_jdk_30_method_1_0 : decode jdk_30_method_1_code 0 = .ok (.aload_n 0, 1) := by decide +kernel
theorem own_d_jdk_30_method_1_1 : decode jdk_30_method_1_code 1 = .ok (.invokespecial 1, 3) := by decide +kernel
theorem own_d_jdk_30_method_1_4 : decode jdk_30_method_1_code 4 = .ok (.return_, 1) := by decide +kernel
theorem own_d_jdk_31_method_11_0 : decode jdk_31_method_11_code 0 = .ok (.aload_n 0, 1) := by decide +kernel
theorem own_d_jdk_31_method_11_1 : decode jdk_31_method_11_code 1 = .ok (.ifnonnull 12, 3) := by decide +kernel
theorem own_d_jdk_31_method_11_13 : decode jdk_31_method_11_code 13 = .ok (.aload_n 0, 1) := by decide +kernel
theorem own_d_jdk_31_method_11_14 : decode jdk_31_method_11_code 14 = .ok (.areturn, 1) := by decide +kernel
theorem own_d_jdk_31_method_14_0 : decode jdk_31_method_14_code 0 = .ok (.aload_n 0, 1) := by decide +kernel
theorem own_d_jdk_31_method_14_1 : decode jdk_31_method_14_code 1 = .ok (.ifnull 7, 3) := by decide +kernel
theorem own_d_jdk_31_method_14_4 : decode jdk_31_method_14_code 4 = .ok (.aload_n 0, 1) := by decide +kernel
theorem own_d_jdk_31_method_14_5 : decode jdk_31_method_14_code 5 = .ok (.goto 9, 3) := by decide +kernel
theorem own_d_jdk_31_method_14_8 : decode jdk_31_method_14_code 8 = .ok (.aload_n 1, 1) := by decide +kernel
theorem own_d_jdk_31_method_14_9 : decode jdk_31_method_14_code 9 = .ok (.ldc 90, 2) := by decide +kernel
theorem own_d_jdk_31_method_14_11 : decode jdk_31_method_14_code 11 = .ok (.invokestatic 92, 3) := by decide +kernel
theorem own_d_jdk_31_method_14_14 : decode jdk_31_method_14_code 14 = .ok (.areturn, 1) := by decide +kernel
theorem own_d_jdk_33_method_22_0 : decode jdk_33_method_22_code 0 = .ok (.iload_n 0, 1) := by decide +kernel
theorem own_d_jdk_33_method_22_1 : decode jdk_33_method_22_code 1 = .ok (.bipush (-128), 2) := by decide +kernel
theorem own_d_jdk_33_method_22_3 : decode jdk_33_method_22_code 3 = .ok (.if_icmp .lt 20, 3) := by decide +kernel
theorem own_d_jdk_33_method_22_6 : decode jdk_33_method_22_code 6 = .ok (.iload_n 0, 1) := by decide +kernel
theorem own_d_jdk_33_method_22_7 : decode jdk_33_method_22_code 7 = .ok (.getstatic 191, 3) := by decide +kernel
theorem own_d_jdk_33_method_22_10 : decode jdk_33_method_22_code 10 = .ok (.if_icmp .gt 13, 3) := by decide +kernel
theorem own_d_jdk_33_method_22_13 : decode jdk_33_method_22_code 13 = .ok (.getstatic 195, 3) := by decide +kernel
theorem own_d_jdk_33_method_22_16 : decode jdk_33_method_22_code 16 = .ok (.iload_n 0, 1) := by decide +kernel
theorem own_d_jdk_33_method_22_17 : decode jdk_33_method_22_code 17 = .ok (.sipush 128, 3) := by decide +kernel
theorem own_d_jdk_33_method_22_20 : decode jdk_33_method_22_code 20 = .ok (.iadd, 1) := by decide +kernel
theorem own_d_jdk_33_method_22_21 : decode jdk_33_method_22_code 21 = .ok (.aaload, 1) := by decide +kernel
theorem own_d_jdk_33_method_22_22 : decode jdk_33_method_22_code 22 = .ok (.areturn, 1) := by decide +kernel
theorem own_d_jdk_33_method_22_23 : decode jdk_33_method_22_code 23 = .ok (.new 1, 3) := by decide +kernel
theorem own_d_jdk_33_method_22_26 : decode jdk_33_method_22_code 26 = .ok (.dup, 1) := by decide +kernel
theorem own_d_jdk_33_method_22_27 : decode jdk_33_method_22_code 27 = .ok (.iload_n 0, 1) := by decide +kernel
theorem own_d_jdk_33_method_22_28 : decode jdk_33_method_22_code 28 = .ok (.invokespecial 199, 3) := by decide +kernel
theorem own_d_jdk_33_method_22_31 : decode jdk_33_method_22_code 31 = .ok (.areturn, 1) := by decide +kernel
theorem own_d_jdk_33_method_23_0 : decode jdk_33_method_23_code 0 = .ok (.aload_n 0, 1) := by decide +kernel
theorem own_d_jdk_33_method_23_1 : decode jdk_33_method_23_code 1 = .ok (.invokespecial 202, 3) := by decide +kernel
theorem own_d_jdk_33_method_23_4 : decode jdk_33_method_23_code 4 = .ok (.aload_n 0, 1) := by decide +kernel
theorem own_d_jdk_33_method_23_5 : decode jdk_33_method_23_code 5 = .ok (.iload_n 1, 1) := by decide +kernel
theorem own_d_jdk_33_method_23_6 : decode jdk_33_method_23_code 6 = .ok (.putfield 205, 3) := by decide +kernel
theorem own_d_jdk_33_method_23_9 : decode jdk_33_method_23_code 9 = .ok (.return_, 1) := by decide +kernel
theorem own_d_jdk_33_method_27_0 : decode jdk_33_method_27_code 0 = .ok (.aload_n 0, 1) := by decide +kernel
theorem own_d_jdk_33_method_27_1 : decode jdk_33_method_27_code 1 = .ok (.getfield 205, 3) := by decide +kernel
theorem own_d_jdk_33_method_27_4 : decode jdk_33_method_27_code 4 = .ok (.ireturn, 1) := by decide +kernel
theorem own_d_method_3_0 : decode method_3_code 0 = .ok (.iload_n 0, 1) := by decide +kernel
theorem own_d_method_3_1 : decode method_3_code 1 = .ok (.ifCond .ne 5, 3) := by decide +kernel
theorem own_d_method_3_4 : decode method_3_code 4 = .ok (.iload_n 1, 1) := by decide +kernel
theorem own_d_method_3_5 : decode method_3_code 5 = .ok (.ireturn, 1) := by decide +kernel
theorem own_d_method_3_6 : decode method_3_code 6 = .ok (.iload_n 2, 1) := by decide +kernel
theorem own_d_method_3_7 : decode method_3_code 7 = .ok (.ifCond .eq 6, 3) := by decide +kernel
theorem own_d_method_3_10 : decode method_3_code 10 = .ok (.iload 4, 2) := by decide +kernel
theorem own_d_method_3_12 : decode method_3_code 12 = .ok (.ireturn, 1) := by decide +kernel
theorem own_d_method_3_13 : decode method_3_code 13 = .ok (.iload_n 3, 1) := by decide +kernel
theorem own_d_method_3_14 : decode method_3_code 14 = .ok (.ireturn, 1) := by decide +kernel
theorem own_d_prog_17_method_1_0 : decode prog_17_method_1_code 0 = .ok (.aload_n 0, 1) := by decide +kernel
theorem own_d_prog_17_method_1_1 : decode prog_17_method_1_code 1 = .ok (.invokespecial 1, 3) := by decide +kernel
theorem own_d_prog_17_method_1_4 : decode prog_17_method_1_code 4 = .ok (.aload_n 0, 1) := by decide +kernel
theorem own_d_prog_17_method_1_5 : decode prog_17_method_1_code 5 = .ok (.iload_n 1, 1) := by decide +kernel
theorem own_d_prog_17_method_1_6 : decode prog_17_method_1_code 6 = .ok (.putfield 7, 3) := by decide +kernel
theorem own_d_prog_17_method_1_9 : decode prog_17_method_1_code 9 = .ok (.aload_n 0, 1) := by decide +kernel
theorem own_d_prog_17_method_1_10 : decode prog_17_method_1_code 10 = .ok (.iload_n 2, 1) := by decide +kernel
theorem own_d_prog_17_method_1_11 : decode prog_17_method_1_code 11 = .ok (.putfield 13, 3) := by decide +kernel
theorem own_d_prog_17_method_1_14 : decode prog_17_method_1_code 14 = .ok (.aload_n 0, 1) := by decide +kernel
theorem own_d_prog_17_method_1_15 : decode prog_17_method_1_code 15 = .ok (.iload_n 3, 1) := by decide +kernel
theorem own_d_prog_17_method_1_16 : decode prog_17_method_1_code 16 = .ok (.putfield 16, 3) := by decide +kernel
theorem own_d_prog_17_method_1_19 : decode prog_17_method_1_code 19 = .ok (.aload_n 0, 1) := by decide +kernel
theorem own_d_prog_17_method_1_20 : decode prog_17_method_1_code 20 = .ok (.iload 4, 2) := by decide +kernel
theorem own_d_prog_17_method_1_22 : decode prog_17_method_1_code 22 = .ok (.putfield 19, 3) := by decide +kernel
theorem own_d_prog_17_method_1_25 : decode prog_17_method_1_code 25 = .ok (.return_, 1) := by decide +kernel
theorem own_d_prog_17_method_5_0 : decode prog_17_method_5_code 0 = .ok (.aload_n 0, 1) := by decide +kernel
theorem own_d_prog_17_method_5_1 : decode prog_17_method_5_code 1 = .ok (.getfield 7, 3) := by decide +kernel
theorem own_d_prog_17_method_5_4 : decode prog_17_method_5_code 4 = .ok (.ireturn, 1) := by decide +kernel
theorem own_d_prog_17_method_6_0 : decode prog_17_method_6_code 0 = .ok (.aload_n 0, 1) := by decide +kernel
theorem own_d_prog_17_method_6_1 : decode prog_17_method_6_code 1 = .ok (.getfield 13, 3) := by decide +kernel
theorem own_d_prog_17_method_6_4 : decode prog_17_method_6_code 4 = .ok (.ireturn, 1) := by decide +kernel
theorem own_d_prog_17_method_7_0 : decode prog_17_method_7_code 0 = .ok (.aload_n 0, 1) := by decide +kernel
theorem own_d_prog_17_method_7_1 : decode prog_17_method_7_code 1 = .ok (.getfield 16, 3) := by decide +kernel
theorem own_d_prog_17_method_7_4 : decode prog_17_method_7_code 4 = .ok (.ireturn, 1) := by decide +kernel
theorem own_d_prog_17_method_8_0 : decode prog_17_method_8_code 0 = .ok (.aload_n 0, 1) := by decide +kernel
theorem own_d_prog_17_method_8_1 : decode prog_17_method_8_code 1 = .ok (.getfield 19, 3) := by decide +kernel
theorem own_d_prog_17_method_8_4 : decode prog_17_method_8_code 4 = .ok (.ireturn, 1) := by decide +kernel
theorem own_d_prog_18_method_1_0 : decode prog_18_method_1_code 0 = .ok (.aload_n 0, 1) := by decide +kernel
theorem own_d_prog_18_method_1_1 : decode prog_18_method_1_code 1 = .ok (.invokespecial 1, 3) := by decide +kernel
theorem own_d_prog_18_method_1_4 : decode prog_18_method_1_code 4 = .ok (.aload_n 0, 1) := by decide +kernel
theorem own_d_prog_18_method_1_5 : decode prog_18_method_1_code 5 = .ok (.aload_n 1, 1) := by decide +kernel
theorem own_d_prog_18_method_1_6 : decode prog_18_method_1_code 6 = .ok (.putfield 7, 3) := by decide +kernel
theorem own_d_prog_18_method_1_9 : decode prog_18_method_1_code 9 = .ok (.aload_n 0, 1) := by decide +kernel
theorem own_d_prog_18_method_1_10 : decode prog_18_method_1_code 10 = .ok (.aload_n 2, 1) := by decide +kernel
theorem own_d_prog_18_method_1_11 : decode prog_18_method_1_code 11 = .ok (.putfield 13, 3) := by decide +kernel
theorem own_d_prog_18_method_1_14 : decode prog_18_method_1_code 14 = .ok (.aload_n 0, 1) := by decide +kernel
theorem own_d_prog_18_method_1_15 : decode prog_18_method_1_code 15 = .ok (.aload_n 3, 1) := by decide +kernel
theorem own_d_prog_18_method_1_16 : decode prog_18_method_1_code 16 = .ok (.putfield 16, 3) := by decide +kernel
theorem own_d_prog_18_method_1_19 : decode prog_18_method_1_code 19 = .ok (.aload_n 0, 1) := by decide +kernel
theorem own_d_prog_18_method_1_20 : decode prog_18_method_1_code 20 = .ok (.aload 4, 2) := by decide +kernel
theorem own_d_prog_18_method_1_22 : decode prog_18_method_1_code 22 = .ok (.putfield 19, 3) := by decide +kernel
theorem own_d_prog_18_method_1_25 : decode prog_18_method_1_code 25 = .ok (.return_, 1) := by decide +kernel
theorem own_d_prog_18_method_2_0 : decode prog_18_method_2_code 0 = .ok (.aload_n 1, 1) := by decide +kernel
theorem own_d_prog_18_method_2_1 : decode prog_18_method_2_code 1 = .ok (.ifnonnull 9, 3) := by decide +kernel
theorem own_d_prog_18_method_2_4 : decode prog_18_method_2_code 4 = .ok (.getstatic 22, 3) := by decide +kernel
theorem own_d_prog_18_method_2_7 : decode prog_18_method_2_code 7 = .ok (.goto 4, 3) := by decide +kernel
theorem own_d_prog_18_method_2_10 : decode prog_18_method_2_code 10 = .ok (.aload_n 1, 1) := by decide +kernel
theorem own_d_prog_18_method_2_11 : decode prog_18_method_2_code 11 = .ok (.astore_n 2, 1) := by decide +kernel
theorem own_d_prog_18_method_2_12 : decode prog_18_method_2_code 12 = .ok (.new 23, 3) := by decide +kernel
theorem own_d_prog_18_method_2_15 : decode prog_18_method_2_code 15 = .ok (.dup, 1) := by decide +kernel
theorem own_d_prog_18_method_2_16 : decode prog_18_method_2_code 16 = .ok (.aload_n 0, 1) := by decide +kernel
theorem own_d_prog_18_method_2_17 : decode prog_18_method_2_code 17 = .ok (.getfield 7, 3) := by decide +kernel
theorem own_d_prog_18_method_2_20 : decode prog_18_method_2_code 20 = .ok (.aload_n 2, 1) := by decide +kernel
theorem own_d_prog_18_method_2_21 : decode prog_18_method_2_code 21 = .ok (.invokevirtual 28, 3) := by decide +kernel
theorem own_d_prog_18_method_2_24 : decode prog_18_method_2_code 24 = .ok (.invokestatic 31, 3) := by decide +kernel
theorem own_d_prog_18_method_2_27 : decode prog_18_method_2_code 27 = .ok (.invokestatic 37, 3) := by decide +kernel
theorem own_d_prog_18_method_2_30 : decode prog_18_method_2_code 30 = .ok (.checkcast 32, 3) := by decide +kernel
theorem own_d_prog_18_method_2_33 : decode prog_18_method_2_code 33 = .ok (.invokevirtual 43, 3) := by decide +kernel
theorem own_d_prog_18_method_2_36 : decode prog_18_method_2_code 36 = .ok (.aload_n 0, 1) := by decide +kernel
theorem own_d_prog_18_method_2_37 : decode prog_18_method_2_code 37 = .ok (.getfield 13, 3) := by decide +kernel
theorem own_d_prog_18_method_2_40 : decode prog_18_method_2_code 40 = .ok (.aload_n 2, 1) := by decide +kernel
theorem own_d_prog_18_method_2_41 : decode prog_18_method_2_code 41 = .ok (.invokevirtual 46, 3) := by decide +kernel
theorem own_d_prog_18_method_2_44 : decode prog_18_method_2_code 44 = .ok (.invokestatic 31, 3) := by decide +kernel
theorem own_d_prog_18_method_2_47 : decode prog_18_method_2_code 47 = .ok (.invokestatic 37, 3) := by decide +kernel
theorem own_d_prog_18_method_2_50 : decode prog_18_method_2_code 50 = .ok (.checkcast 32, 3) := by decide +kernel
theorem own_d_prog_18_method_2_53 : decode prog_18_method_2_code 53 = .ok (.invokevirtual 43, 3) := by decide +kernel
theorem own_d_prog_18_method_2_56 : decode prog_18_method_2_code 56 = .ok (.aload_n 0, 1) := by decide +kernel
theorem own_d_prog_18_method_2_57 : decode prog_18_method_2_code 57 = .ok (.getfield 16, 3) := by decide +kernel
theorem own_d_prog_18_method_2_60 : decode prog_18_method_2_code 60 = .ok (.aload_n 2, 1) := by decide +kernel
theorem own_d_prog_18_method_2_61 : decode prog_18_method_2_code 61 = .ok (.invokevirtual 48, 3) := by decide +kernel
theorem own_d_prog_18_method_2_64 : decode prog_18_method_2_code 64 = .ok (.invokestatic 31, 3) := by decide +kernel
theorem own_d_prog_18_method_2_67 : decode prog_18_method_2_code 67 = .ok (.invokestatic 37, 3) := by decide +kernel
theorem own_d_prog_18_method_2_70 : decode prog_18_method_2_code 70 = .ok (.checkcast 32, 3) := by decide +kernel
theorem own_d_prog_18_method_2_73 : decode prog_18_method_2_code 73 = .ok (.invokevirtual 43, 3) := by decide +kernel
theorem own_d_prog_18_method_2_76 : decode prog_18_method_2_code 76 = .ok (.aload_n 0, 1) := by decide +kernel
theorem own_d_prog_18_method_2_77 : decode prog_18_method_2_code 77 = .ok (.getfield 19, 3) := by decide +kernel
theorem own_d_prog_18_method_2_80 : decode prog_18_method_2_code 80 = .ok (.aload_n 2, 1) := by decide +kernel
theorem own_d_prog_18_method_2_81 : decode prog_18_method_2_code 81 = .ok (.invokevirtual 50, 3) := by decide +kernel
theorem own_d_prog_18_method_2_84 : decode prog_18_method_2_code 84 = .ok (.invokestatic 31, 3) := by decide +kernel
theorem own_d_prog_18_method_2_87 : decode prog_18_method_2_code 87 = .ok (.invokestatic 37, 3) := by decide +kernel
theorem own_d_prog_18_method_2_90 : decode prog_18_method_2_code 90 = .ok (.checkcast 32, 3) := by decide +kernel
theorem own_d_prog_18_method_2_93 : decode prog_18_method_2_code 93 = .ok (.invokevirtual 43, 3) := by decide +kernel
theorem own_d_prog_18_method_2_96 : decode prog_18_method_2_code 96 = .ok (.invokespecial 52, 3) := by decide +kernel
theorem own_d_prog_18_method_2_99 : decode prog_18_method_2_code 99 = .ok (.areturn, 1) := by decide +kernel
theorem own_pd0 : parseMethodDescriptor "()V" = some ⟨[], none⟩ := by decide +kernel
theorem own_pd1 : parseMethodDescriptor "(I)V" = some ⟨[.int], none⟩ := by decide +kernel
theorem own_pd2 : parseMethodDescriptor "(Ljava/lang/Object;Ljava/lang/String;)Ljava/lang/Object;" = some ⟨[(.object "java/lang/Object"), (.object "java/lang/String")], some (.object "java/lang/Object")⟩ := by decide +kernel
theorem own_pd3 : parseMethodDescriptor "()I" = some ⟨[], some .int⟩ := by decide +kernel
theorem own_pd4 : parseMethodDescriptor "(I)Ljava/lang/Integer;" = some ⟨[.int], some (.object "java/lang/Integer")⟩ := by decide +kernel
theorem own_pd5 : parseMethodDescriptor "(Ljava/lang/Object;Ljava/lang/Object;)Ljava/lang/Object;" = some ⟨[(.object "java/lang/Object"), (.object "java/lang/Object")], some (.object "java/lang/Object")⟩ := by decide +kernel
theorem own_pd6 : parseMethodDescriptor "(IIII)V" = some ⟨[.int, .int, .int, .int], none⟩ := by decide +kernel
theorem own_pd7 : parseMethodDescriptor "(Ljava/lang/Integer;Ljava/lang/Integer;Ljava/lang/Integer;Ljava/lang/Integer;)V" = some ⟨[(.object "java/lang/Integer"), (.object "java/lang/Integer"), (.object "java/lang/Integer"), (.object "java/lang/Integer")], none⟩ := by decide +kernel
theorem own_pd8 : parseMethodDescriptor "(Lcom/example/hongdae/hongdae/sale/WaitingRoom;)Lcom/example/hongdae/hongdae/sale/WaitingRoom;" = some ⟨[(.object "com/example/hongdae/hongdae/sale/WaitingRoom")], some (.object "com/example/hongdae/hongdae/sale/WaitingRoom")⟩ := by decide +kernel
theorem own_pd9 : parseMethodDescriptor "(ZIZII)I" = some ⟨[.boolean, .int, .boolean, .int, .int], some .int⟩ := by decide +kernel
theorem own_pn0 : plainName "java/lang/Record" = true := by first | (simp [plainName, overriddenIn]; done) | decide +kernel
theorem own_pn1 : plainName "java/lang/Number" = true := by first | (simp [plainName, overriddenIn]; done) | decide +kernel
theorem own_pn2 : plainName "java/lang/Integer" = true := by first | (simp [plainName, overriddenIn]; done) | decide +kernel
theorem own_pn3 : plainName "com/example/hongdae/hongdae/sale/WaitingRoom" = true := by first | (simp [plainName, overriddenIn]; done) | decide +kernel
theorem own_pn4 : plainName "com/example/hongdae/hongdae/sale/WaitingRoom$Change" = true := by first | (simp [plainName, overriddenIn]; done) | decide +kernel
theorem own_pn5 : plainName "java/util/Objects" = true := by first | (simp [plainName, overriddenIn]; done) | decide +kernel
theorem own_pn6 : plainName "com/example/hongdae/hongdae/sale/ChangeApplyToPinLaw" = true := by first | (simp [plainName, overriddenIn]; done) | decide +kernel
set_option maxRecDepth 65536 in
set_option maxHeartbeats 40000000 in
theorem own_rec (l : Launch) (Z : State) (a0 : Array Value) (hw : ∀ d ∈ tables_1, d.before a0 Z = true) (ws : List Jvm.Cond) (a1 : Addr) (h0 : Heap) (n0 : Nat) :
    own_Met l Z (⟨"java/lang/Record", "<init>", "()V"⟩ : MethodName) jdk_30_method_1_code 1 none ws ({ frames := 1, cells := 0, slots := 0, locals := 12 } : Room) #[(.ref a1)] h0 (fun v h L => v = none ∧ Fr n0 L ∧ h = h0) := by
  refine MetFree.of_bodySF (plainFor_of_name own_pn0) hisR ?_
  intro p e s m args below meth c s₁ Bd hml0 hP hK
  obtain ⟨rfl, hZ, hh⟩ := hP
  have hx := Bd.exec
  have hby := Bd.bytes
  have hml : c.maxLocals = 1 := hml0
  have hown : s.vm.findClass "java/lang/Record" = some m.cls := findClass_of_methodNamed Bd.named
  have hnm := (name_of_methodNamed Bd.named Bd.method).1
  have X0 : Stand p l e ({ frames := 1, cells := 0, slots := 0, locals := 12 } : Room) s m #[(.ref a1)] below meth c s₁ [] 0 0 := Stand.of_body Bd
  have e0 : s₁.heap = h0 := by rw [← hh, Bd.state]; rfl
  have N0 := Fr.nil n0
  have ef : entryFrame m #[(.ref a1)] 1 = mkF m 0 #[.val (.ref a1)] [] := by first | (simp [entryFrame, mkF, argsToLocals, Value.category, maxLocals]; done) | rfl
  show own_End p e below _ (s₁.setTop (entryFrame m #[(.ref a1)] 1))
  refine own_by (fun _ k => castTop ef k) ?_
  show own_End p e below _ (s₁.setTop (mkF m 0 #[.val (.ref a1)] []))
  refine own_by (fun _ k => XS.aloadN X0.here hx rfl (hb hby own_d_jdk_30_method_1_0) rfl rfl k) ?_
  show own_End p e below _ (s₁.setTop (mkF m 1 #[.val (.ref a1)] [(.ref a1)]))
  obtain ⟨T1, X1, e1, st1⟩ := initO X0 hx hZ hown (hw _ (List.mem_of_getElem? (i := 11) rfl)) (hw _ (List.mem_of_getElem? (i := 12) rfl)) (hw _ (List.mem_of_getElem? (i := 13) rfl)) e0 (g := (mkF m 1 #[.val (.ref a1)] [(.ref a1)])) rfl (by rw [hml]; rfl) rfl (hb hby own_d_jdk_30_method_1_1) (by decide) (W := 0) (by show 2 * 0 + _ ≤ _; exact Nat.le_of_eq rfl) (by decide)
  refine own_by st1 ?_
  show own_End p e below _ (T1.setTop (mkF m 4 #[.val (.ref a1)] []))
  obtain ⟨fs, hr, hrun, hended, hW, hsame⟩ := X1.leave (v := none) (fun _ => rfl)
  refine ⟨_, _, X1.returnOut hx Bd.returns (hb hby own_d_jdk_30_method_1_4) hr, hrun, hended, _, _, rfl, ?_, ⟨_, rfl⟩, hW, hsame.mono (by decide) (by decide)⟩
  exact ⟨rfl, N0, e1⟩
set_option maxRecDepth 65536 in
set_option maxHeartbeats 40000000 in
theorem own_num (l : Launch) (Z : State) (a0 : Array Value) (hw : ∀ d ∈ tables_1, d.before a0 Z = true) (ws : List Jvm.Cond) (a1 : Addr) (h0 : Heap) (n0 : Nat) :
    own_Met l Z (⟨"java/lang/Number", "<init>", "()V"⟩ : MethodName) jdk_18_method_1_code 1 none ws ({ frames := 1, cells := 0, slots := 0, locals := 12 } : Room) #[(.ref a1)] h0 (fun v h L => v = none ∧ Fr n0 L ∧ h = h0) := by
  refine MetFree.of_bodySF (plainFor_of_name own_pn1) hisR ?_
  intro p e s m args below meth c s₁ Bd hml0 hP hK
  obtain ⟨rfl, hZ, hh⟩ := hP
  have hx := Bd.exec
  have hby := Bd.bytes
  have hml : c.maxLocals = 1 := hml0
  have hown : s.vm.findClass "java/lang/Number" = some m.cls := findClass_of_methodNamed Bd.named
  have hnm := (name_of_methodNamed Bd.named Bd.method).1
  have X0 : Stand p l e ({ frames := 1, cells := 0, slots := 0, locals := 12 } : Room) s m #[(.ref a1)] below meth c s₁ [] 0 0 := Stand.of_body Bd
  have e0 : s₁.heap = h0 := by rw [← hh, Bd.state]; rfl
  have N0 := Fr.nil n0
  have ef : entryFrame m #[(.ref a1)] 1 = mkF m 0 #[.val (.ref a1)] [] := by first | (simp [entryFrame, mkF, argsToLocals, Value.category, maxLocals]; done) | rfl
  show own_End p e below _ (s₁.setTop (entryFrame m #[(.ref a1)] 1))
  refine own_by (fun _ k => castTop ef k) ?_
  show own_End p e below _ (s₁.setTop (mkF m 0 #[.val (.ref a1)] []))
  refine own_by (fun _ k => XS.aloadN X0.here hx rfl (hb hby own_d_jdk_18_method_1_0) rfl rfl k) ?_
  show own_End p e below _ (s₁.setTop (mkF m 1 #[.val (.ref a1)] [(.ref a1)]))
  obtain ⟨T2, X2, e2, st2⟩ := initO X0 hx hZ hown (hw _ (List.mem_of_getElem? (i := 68) rfl)) (hw _ (List.mem_of_getElem? (i := 12) rfl)) (hw _ (List.mem_of_getElem? (i := 13) rfl)) e0 (g := (mkF m 1 #[.val (.ref a1)] [(.ref a1)])) rfl (by rw [hml]; rfl) rfl (hb hby own_d_jdk_18_method_1_1) (by decide) (W := 0) (by show 2 * 0 + _ ≤ _; exact Nat.le_of_eq rfl) (by decide)
  refine own_by st2 ?_
  show own_End p e below _ (T2.setTop (mkF m 4 #[.val (.ref a1)] []))
  obtain ⟨fs, hr, hrun, hended, hW, hsame⟩ := X2.leave (v := none) (fun _ => rfl)
  refine ⟨_, _, X2.returnOut hx Bd.returns (hb hby own_d_jdk_18_method_1_4) hr, hrun, hended, _, _, rfl, ?_, ⟨_, rfl⟩, hW, hsame.mono (by decide) (by decide)⟩
  exact ⟨rfl, N0, e2⟩
set_option maxRecDepth 65536 in
set_option maxHeartbeats 40000000 in
theorem own_inti (l : Launch) (Z : State) (a0 : Array Value) (hw : ∀ d ∈ tables_1, d.before a0 Z = true) (ws : List Jvm.Cond) (a1 : Addr) (p1 : Int32) (h0 : Heap) (n0 : Nat) (hbs : Heap) (Ob : Ext hbs h0) (gb : hbs.size ≤ a1) (Z0 : n0 ≤ Z.heap.size) (g_a1 : Z.heap.size ≤ a1) (E_a1 : Exa Z h0 a1 "java/lang/Integer") (F_value : Fld Z h0 a1 "java/lang/Integer" "value" "I" (.int (0 : Int32))) :
    own_Met l Z (⟨"java/lang/Integer", "<init>", "(I)V"⟩ : MethodName) jdk_33_method_23_code 2 none ws ({ frames := 2, cells := 0, slots := 0, locals := 24 } : Room) #[(.ref a1), (.int p1)] h0 (fun v h L => v = none ∧ Fr n0 L ∧ Ext hbs h ∧ h0.size ≤ h.size ∧ Exa Z h a1 "java/lang/Integer" ∧ Fld Z h a1 "java/lang/Integer" "value" "I" (.int p1)) := by
  refine MetFree.of_bodySF (plainFor_of_name own_pn2) hisR ?_
  intro p e s m args below meth c s₁ Bd hml0 hP hK
  obtain ⟨rfl, hZ, hh⟩ := hP
  have hx := Bd.exec
  have hby := Bd.bytes
  have hml : c.maxLocals = 2 := hml0
  have hown : s.vm.findClass "java/lang/Integer" = some m.cls := findClass_of_methodNamed Bd.named
  have hnm := (name_of_methodNamed Bd.named Bd.method).1
  have X0 : Stand p l e ({ frames := 2, cells := 0, slots := 0, locals := 24 } : Room) s m #[(.ref a1), (.int p1)] below meth c s₁ [] 0 0 := Stand.of_body Bd
  have e0 : s₁.heap = h0 := by rw [← hh, Bd.state]; rfl
  have N0 := Fr.nil n0
  have ef : entryFrame m #[(.ref a1), (.int p1)] 2 = mkF m 0 #[.val (.ref a1), .val (.int p1)] [] := by first | (simp [entryFrame, mkF, argsToLocals, Value.category, maxLocals]; done) | rfl
  show own_End p e below _ (s₁.setTop (entryFrame m #[(.ref a1), (.int p1)] 2))
  refine own_by (fun _ k => castTop ef k) ?_
  show own_End p e below _ (s₁.setTop (mkF m 0 #[.val (.ref a1), .val (.int p1)] []))
  refine own_by (fun _ k => XS.aloadN X0.here hx rfl (hb hby own_d_jdk_33_method_23_0) rfl rfl k) ?_
  show own_End p e below _ (s₁.setTop (mkF m 1 #[.val (.ref a1), .val (.int p1)] [(.ref a1)]))
  obtain ⟨_, _, ⟨T3, L3, k3, n3⟩, -, X3, ⟨Lc3, hQ3, l3, y3, z3⟩, st3⟩ := X0.specialBack hx (y := (⟨"java/lang/Number", "<init>", "()V"⟩ : MethodName)) rfl hown (mvT hZ (hw _ (List.mem_of_getElem? (i := 62) rfl))) (mvT hZ (hw _ (List.mem_of_getElem? (i := 63) rfl))) (mvT hZ (hw _ (List.mem_of_getElem? (i := 67) rfl))) (by decide) (own_back (W := 0) (own_num l Z a0 hw [] a1 h0 n0) hZ (hw _ (List.mem_of_getElem? (i := 67) rfl)) (hw _ (List.mem_of_getElem? (i := 66) rfl)) (by decide) (by decide)) (g := (mkF m 1 #[.val (.ref a1), .val (.int p1)] [(.ref a1)])) rfl (by rw [hml]; rfl) (Steps.refl _) (a := a1) (argsL := []) (rest := []) (lenOf own_pd0 rfl) rfl (by show 2 * 0 + _ ≤ _; exact Nat.le_of_eq rfl) (hb hby own_d_jdk_33_method_23_1) (fun _ _ => ⟨rfl, e0, (by decide : 0 + 0 ≤ _), (by decide : 0 + 0 ≤ _)⟩)
  dsimp only [Pt.U, Pt.locs, Pt.cells, Pt.slots] at X3 l3 y3 z3 st3 hQ3
  subst l3 y3 z3
  obtain ⟨rfl, N3q, e3⟩ := hQ3
  have N3 := Fr.app N0 N3q
  refine own_by (fun _ k => st3.trans k) ?_
  show own_End p e below _ (T3.setTop (mkF m 4 #[.val (.ref a1), .val (.int p1)] []))
  refine own_by (fun _ k => XS.aloadN X3.here hx rfl (hb hby own_d_jdk_33_method_23_4) rfl rfl k) ?_
  show own_End p e below _ (T3.setTop (mkF m 5 #[.val (.ref a1), .val (.int p1)] [(.ref a1)]))
  refine own_by (fun _ k => XS.iloadN X3.here hx rfl (hb hby own_d_jdk_33_method_23_5) rfl k) ?_
  show own_End p e below _ (T3.setTop (mkF m 6 #[.val (.ref a1), .val (.int p1)] [(.int p1), (.ref a1)]))
  obtain ⟨T4, h4, X4, e4, W4, st4⟩ := putF X3 hx hZ hown (host := "") (Or.inl (hw _ (List.mem_of_getElem? (i := 69) rfl))) Via.refl e3 F_value E_a1 (Or.inr ⟨(hw _ (List.mem_of_getElem? (i := 70) rfl)), rfl, hnm⟩) (hw _ (List.mem_of_getElem? (i := 57) rfl)) (ty := .int) (by decide) rfl rfl (g := (mkF m 6 #[.val (.ref a1), .val (.int p1)] [(.int p1), (.ref a1)])) rfl rfl (hb hby own_d_jdk_33_method_23_6)
  have F4_value := F_value.same W4
  have E4_x := E_a1.wr W4
  have Ob4 := own_extW Ob W4 gb
  have N4 := Fr.snoc X4 N3 (Nat.le_trans Z0 g_a1)
  have Kp4 := Nat.le_trans (Nat.le_refl h0.size) (Nat.le_of_eq W4.size.symm)
  refine own_by st4 ?_
  show own_End p e below _ (T4.setTop (mkF m 9 #[.val (.ref a1), .val (.int p1)] []))
  obtain ⟨fs, hr, hrun, hended, hW, hsame⟩ := X4.leave (v := none) (fun _ => rfl)
  refine ⟨_, _, X4.returnOut hx Bd.returns (hb hby own_d_jdk_33_method_23_9) hr, hrun, hended, _, _, rfl, ?_, ⟨_, rfl⟩, hW, hsame.mono (by decide) (by decide)⟩
  have hfin : (T4.setFrames fs).heap = h4 := e4
  exact ⟨rfl, N4, by rw [hfin]; exact Ob4, by rw [hfin]; exact Kp4, by rw [hfin]; exact ⟨E4_x, F4_value⟩⟩
set_option maxRecDepth 65536 in
set_option maxHeartbeats 40000000 in
theorem own_wri (l : Launch) (Z : State) (a0 : Array Value) (hw : ∀ d ∈ tables_1, d.before a0 Z = true) (ws : List Jvm.Cond) (a1 : Addr) (p1 p2 p3 p4 : Int32) (h0 : Heap) (n0 : Nat) (hbs : Heap) (Ob : Ext hbs h0) (gb : hbs.size ≤ a1) (Z0 : n0 ≤ Z.heap.size) (g_a1 : Z.heap.size ≤ a1) (E_a1 : Exa Z h0 a1 "com/example/hongdae/hongdae/sale/WaitingRoom") (F_admitPerTick : Fld Z h0 a1 "com/example/hongdae/hongdae/sale/WaitingRoom" "admitPerTick" "I" (.int (0 : Int32))) (F_tickSeconds : Fld Z h0 a1 "com/example/hongdae/hongdae/sale/WaitingRoom" "tickSeconds" "I" (.int (0 : Int32))) (F_maxActive : Fld Z h0 a1 "com/example/hongdae/hongdae/sale/WaitingRoom" "maxActive" "I" (.int (0 : Int32))) (F_activeSeconds : Fld Z h0 a1 "com/example/hongdae/hongdae/sale/WaitingRoom" "activeSeconds" "I" (.int (0 : Int32))) :
    own_Met l Z (⟨"com/example/hongdae/hongdae/sale/WaitingRoom", "<init>", "(IIII)V"⟩ : MethodName) prog_17_method_1_code 5 none ws ({ frames := 2, cells := 0, slots := 0, locals := 24 } : Room) #[(.ref a1), (.int p1), (.int p2), (.int p3), (.int p4)] h0 (fun v h L => v = none ∧ Fr n0 L ∧ Ext hbs h ∧ h0.size ≤ h.size ∧ own_WRf Z h a1 p1 p2 p3 p4) := by
  refine MetFree.of_bodySF (plainFor_of_name own_pn3) hisR ?_
  intro p e s m args below meth c s₁ Bd hml0 hP hK
  obtain ⟨rfl, hZ, hh⟩ := hP
  have hx := Bd.exec
  have hby := Bd.bytes
  have hml : c.maxLocals = 5 := hml0
  have hown : s.vm.findClass "com/example/hongdae/hongdae/sale/WaitingRoom" = some m.cls := findClass_of_methodNamed Bd.named
  have hnm := (name_of_methodNamed Bd.named Bd.method).1
  have X0 : Stand p l e ({ frames := 2, cells := 0, slots := 0, locals := 24 } : Room) s m #[(.ref a1), (.int p1), (.int p2), (.int p3), (.int p4)] below meth c s₁ [] 0 0 := Stand.of_body Bd
  have e0 : s₁.heap = h0 := by rw [← hh, Bd.state]; rfl
  have N0 := Fr.nil n0
  have ef : entryFrame m #[(.ref a1), (.int p1), (.int p2), (.int p3), (.int p4)] 5 = mkF m 0 #[.val (.ref a1), .val (.int p1), .val (.int p2), .val (.int p3), .val (.int p4)] [] := by first | (simp [entryFrame, mkF, argsToLocals, Value.category, maxLocals]; done) | rfl
  show own_End p e below _ (s₁.setTop (entryFrame m #[(.ref a1), (.int p1), (.int p2), (.int p3), (.int p4)] 5))
  refine own_by (fun _ k => castTop ef k) ?_
  show own_End p e below _ (s₁.setTop (mkF m 0 #[.val (.ref a1), .val (.int p1), .val (.int p2), .val (.int p3), .val (.int p4)] []))
  refine own_by (fun _ k => XS.aloadN X0.here hx rfl (hb hby own_d_prog_17_method_1_0) rfl rfl k) ?_
  show own_End p e below _ (s₁.setTop (mkF m 1 #[.val (.ref a1), .val (.int p1), .val (.int p2), .val (.int p3), .val (.int p4)] [(.ref a1)]))
  obtain ⟨_, _, ⟨T5, L5, k5, n5⟩, -, X5, ⟨Lc5, hQ5, l5, y5, z5⟩, st5⟩ := X0.specialBack hx (y := (⟨"java/lang/Record", "<init>", "()V"⟩ : MethodName)) rfl hown (mvT hZ (hw _ (List.mem_of_getElem? (i := 6) rfl))) (mvT hZ (hw _ (List.mem_of_getElem? (i := 7) rfl))) (mvT hZ (hw _ (List.mem_of_getElem? (i := 10) rfl))) (by decide) (own_back (W := 0) (own_rec l Z a0 hw [] a1 h0 n0) hZ (hw _ (List.mem_of_getElem? (i := 10) rfl)) (hw _ (List.mem_of_getElem? (i := 9) rfl)) (by decide) (by decide)) (g := (mkF m 1 #[.val (.ref a1), .val (.int p1), .val (.int p2), .val (.int p3), .val (.int p4)] [(.ref a1)])) rfl (by rw [hml]; rfl) (Steps.refl _) (a := a1) (argsL := []) (rest := []) (lenOf own_pd0 rfl) rfl (by show 2 * 0 + _ ≤ _; exact Nat.le_of_eq rfl) (hb hby own_d_prog_17_method_1_1) (fun _ _ => ⟨rfl, e0, (by decide : 0 + 0 ≤ _), (by decide : 0 + 0 ≤ _)⟩)
  dsimp only [Pt.U, Pt.locs, Pt.cells, Pt.slots] at X5 l5 y5 z5 st5 hQ5
  subst l5 y5 z5
  obtain ⟨rfl, N5q, e5⟩ := hQ5
  have N5 := Fr.app N0 N5q
  refine own_by (fun _ k => st5.trans k) ?_
  show own_End p e below _ (T5.setTop (mkF m 4 #[.val (.ref a1), .val (.int p1), .val (.int p2), .val (.int p3), .val (.int p4)] []))
  refine own_by (fun _ k => XS.aloadN X5.here hx rfl (hb hby own_d_prog_17_method_1_4) rfl rfl k) ?_
  show own_End p e below _ (T5.setTop (mkF m 5 #[.val (.ref a1), .val (.int p1), .val (.int p2), .val (.int p3), .val (.int p4)] [(.ref a1)]))
  refine own_by (fun _ k => XS.iloadN X5.here hx rfl (hb hby own_d_prog_17_method_1_5) rfl k) ?_
  show own_End p e below _ (T5.setTop (mkF m 6 #[.val (.ref a1), .val (.int p1), .val (.int p2), .val (.int p3), .val (.int p4)] [(.int p1), (.ref a1)]))
  obtain ⟨T6, h6, X6, e6, W6, st6⟩ := putF X5 hx hZ hown (host := "") (Or.inl (hw _ (List.mem_of_getElem? (i := 14) rfl))) Via.refl e5 F_admitPerTick E_a1 (Or.inr ⟨(hw _ (List.mem_of_getElem? (i := 15) rfl)), rfl, hnm⟩) (hw _ (List.mem_of_getElem? (i := 1) rfl)) (ty := .int) (by decide) rfl rfl (g := (mkF m 6 #[.val (.ref a1), .val (.int p1), .val (.int p2), .val (.int p3), .val (.int p4)] [(.int p1), (.ref a1)])) rfl rfl (hb hby own_d_prog_17_method_1_6)
  have F6_admitPerTick := F_admitPerTick.same W6
  have F6_tickSeconds := F_tickSeconds.other W6 (Or.inr (slot_ne (Or.inr (hw _ (List.mem_of_getElem? (i := 17) rfl))) (Or.inr (hw _ (List.mem_of_getElem? (i := 15) rfl))) (by decide) (t := .int) (t' := .int) (by decide) (by decide)))
  have F6_maxActive := F_maxActive.other W6 (Or.inr (slot_ne (Or.inr (hw _ (List.mem_of_getElem? (i := 19) rfl))) (Or.inr (hw _ (List.mem_of_getElem? (i := 15) rfl))) (by decide) (t := .int) (t' := .int) (by decide) (by decide)))
  have F6_activeSeconds := F_activeSeconds.other W6 (Or.inr (slot_ne (Or.inr (hw _ (List.mem_of_getElem? (i := 21) rfl))) (Or.inr (hw _ (List.mem_of_getElem? (i := 15) rfl))) (by decide) (t := .int) (t' := .int) (by decide) (by decide)))
  have E6_x := E_a1.wr W6
  have Ob6 := own_extW Ob W6 gb
  have N6 := Fr.snoc X6 N5 (Nat.le_trans Z0 g_a1)
  have Kp6 := Nat.le_trans (Nat.le_refl h0.size) (Nat.le_of_eq W6.size.symm)
  refine own_by st6 ?_
  show own_End p e below _ (T6.setTop (mkF m 9 #[.val (.ref a1), .val (.int p1), .val (.int p2), .val (.int p3), .val (.int p4)] []))
  refine own_by (fun _ k => XS.aloadN X6.here hx rfl (hb hby own_d_prog_17_method_1_9) rfl rfl k) ?_
  show own_End p e below _ (T6.setTop (mkF m 10 #[.val (.ref a1), .val (.int p1), .val (.int p2), .val (.int p3), .val (.int p4)] [(.ref a1)]))
  refine own_by (fun _ k => XS.iloadN X6.here hx rfl (hb hby own_d_prog_17_method_1_10) rfl k) ?_
  show own_End p e below _ (T6.setTop (mkF m 11 #[.val (.ref a1), .val (.int p1), .val (.int p2), .val (.int p3), .val (.int p4)] [(.int p2), (.ref a1)]))
  obtain ⟨T7, h7, X7, e7, W7, st7⟩ := putF X6 hx hZ hown (host := "") (Or.inl (hw _ (List.mem_of_getElem? (i := 16) rfl))) Via.refl e6 F6_tickSeconds E6_x (Or.inr ⟨(hw _ (List.mem_of_getElem? (i := 17) rfl)), rfl, hnm⟩) (hw _ (List.mem_of_getElem? (i := 1) rfl)) (ty := .int) (by decide) rfl rfl (g := (mkF m 11 #[.val (.ref a1), .val (.int p1), .val (.int p2), .val (.int p3), .val (.int p4)] [(.int p2), (.ref a1)])) rfl rfl (hb hby own_d_prog_17_method_1_11)
  have F7_admitPerTick := F6_admitPerTick.other W7 (Or.inr (slot_ne (Or.inr (hw _ (List.mem_of_getElem? (i := 15) rfl))) (Or.inr (hw _ (List.mem_of_getElem? (i := 17) rfl))) (by decide) (t := .int) (t' := .int) (by decide) (by decide)))
  have F7_tickSeconds := F6_tickSeconds.same W7
  have F7_maxActive := F6_maxActive.other W7 (Or.inr (slot_ne (Or.inr (hw _ (List.mem_of_getElem? (i := 19) rfl))) (Or.inr (hw _ (List.mem_of_getElem? (i := 17) rfl))) (by decide) (t := .int) (t' := .int) (by decide) (by decide)))
  have F7_activeSeconds := F6_activeSeconds.other W7 (Or.inr (slot_ne (Or.inr (hw _ (List.mem_of_getElem? (i := 21) rfl))) (Or.inr (hw _ (List.mem_of_getElem? (i := 17) rfl))) (by decide) (t := .int) (t' := .int) (by decide) (by decide)))
  have E7_x := E6_x.wr W7
  have Ob7 := own_extW Ob6 W7 gb
  have N7 := Fr.snoc X7 N6 (Nat.le_trans Z0 g_a1)
  have Kp7 := Nat.le_trans Kp6 (Nat.le_of_eq W7.size.symm)
  refine own_by st7 ?_
  show own_End p e below _ (T7.setTop (mkF m 14 #[.val (.ref a1), .val (.int p1), .val (.int p2), .val (.int p3), .val (.int p4)] []))
  refine own_by (fun _ k => XS.aloadN X7.here hx rfl (hb hby own_d_prog_17_method_1_14) rfl rfl k) ?_
  show own_End p e below _ (T7.setTop (mkF m 15 #[.val (.ref a1), .val (.int p1), .val (.int p2), .val (.int p3), .val (.int p4)] [(.ref a1)]))
  refine own_by (fun _ k => XS.iloadN X7.here hx rfl (hb hby own_d_prog_17_method_1_15) rfl k) ?_
  show own_End p e below _ (T7.setTop (mkF m 16 #[.val (.ref a1), .val (.int p1), .val (.int p2), .val (.int p3), .val (.int p4)] [(.int p3), (.ref a1)]))
  obtain ⟨T8, h8, X8, e8, W8, st8⟩ := putF X7 hx hZ hown (host := "") (Or.inl (hw _ (List.mem_of_getElem? (i := 18) rfl))) Via.refl e7 F7_maxActive E7_x (Or.inr ⟨(hw _ (List.mem_of_getElem? (i := 19) rfl)), rfl, hnm⟩) (hw _ (List.mem_of_getElem? (i := 1) rfl)) (ty := .int) (by decide) rfl rfl (g := (mkF m 16 #[.val (.ref a1), .val (.int p1), .val (.int p2), .val (.int p3), .val (.int p4)] [(.int p3), (.ref a1)])) rfl rfl (hb hby own_d_prog_17_method_1_16)
  have F8_admitPerTick := F7_admitPerTick.other W8 (Or.inr (slot_ne (Or.inr (hw _ (List.mem_of_getElem? (i := 15) rfl))) (Or.inr (hw _ (List.mem_of_getElem? (i := 19) rfl))) (by decide) (t := .int) (t' := .int) (by decide) (by decide)))
  have F8_tickSeconds := F7_tickSeconds.other W8 (Or.inr (slot_ne (Or.inr (hw _ (List.mem_of_getElem? (i := 17) rfl))) (Or.inr (hw _ (List.mem_of_getElem? (i := 19) rfl))) (by decide) (t := .int) (t' := .int) (by decide) (by decide)))
  have F8_maxActive := F7_maxActive.same W8
  have F8_activeSeconds := F7_activeSeconds.other W8 (Or.inr (slot_ne (Or.inr (hw _ (List.mem_of_getElem? (i := 21) rfl))) (Or.inr (hw _ (List.mem_of_getElem? (i := 19) rfl))) (by decide) (t := .int) (t' := .int) (by decide) (by decide)))
  have E8_x := E7_x.wr W8
  have Ob8 := own_extW Ob7 W8 gb
  have N8 := Fr.snoc X8 N7 (Nat.le_trans Z0 g_a1)
  have Kp8 := Nat.le_trans Kp7 (Nat.le_of_eq W8.size.symm)
  refine own_by st8 ?_
  show own_End p e below _ (T8.setTop (mkF m 19 #[.val (.ref a1), .val (.int p1), .val (.int p2), .val (.int p3), .val (.int p4)] []))
  refine own_by (fun _ k => XS.aloadN X8.here hx rfl (hb hby own_d_prog_17_method_1_19) rfl rfl k) ?_
  show own_End p e below _ (T8.setTop (mkF m 20 #[.val (.ref a1), .val (.int p1), .val (.int p2), .val (.int p3), .val (.int p4)] [(.ref a1)]))
  refine own_by (fun _ k => XS.iload X8.here hx rfl (hb hby own_d_prog_17_method_1_20) rfl k) ?_
  show own_End p e below _ (T8.setTop (mkF m 22 #[.val (.ref a1), .val (.int p1), .val (.int p2), .val (.int p3), .val (.int p4)] [(.int p4), (.ref a1)]))
  obtain ⟨T9, h9, X9, e9, W9, st9⟩ := putF X8 hx hZ hown (host := "") (Or.inl (hw _ (List.mem_of_getElem? (i := 20) rfl))) Via.refl e8 F8_activeSeconds E8_x (Or.inr ⟨(hw _ (List.mem_of_getElem? (i := 21) rfl)), rfl, hnm⟩) (hw _ (List.mem_of_getElem? (i := 1) rfl)) (ty := .int) (by decide) rfl rfl (g := (mkF m 22 #[.val (.ref a1), .val (.int p1), .val (.int p2), .val (.int p3), .val (.int p4)] [(.int p4), (.ref a1)])) rfl rfl (hb hby own_d_prog_17_method_1_22)
  have F9_admitPerTick := F8_admitPerTick.other W9 (Or.inr (slot_ne (Or.inr (hw _ (List.mem_of_getElem? (i := 15) rfl))) (Or.inr (hw _ (List.mem_of_getElem? (i := 21) rfl))) (by decide) (t := .int) (t' := .int) (by decide) (by decide)))
  have F9_tickSeconds := F8_tickSeconds.other W9 (Or.inr (slot_ne (Or.inr (hw _ (List.mem_of_getElem? (i := 17) rfl))) (Or.inr (hw _ (List.mem_of_getElem? (i := 21) rfl))) (by decide) (t := .int) (t' := .int) (by decide) (by decide)))
  have F9_maxActive := F8_maxActive.other W9 (Or.inr (slot_ne (Or.inr (hw _ (List.mem_of_getElem? (i := 19) rfl))) (Or.inr (hw _ (List.mem_of_getElem? (i := 21) rfl))) (by decide) (t := .int) (t' := .int) (by decide) (by decide)))
  have F9_activeSeconds := F8_activeSeconds.same W9
  have E9_x := E8_x.wr W9
  have Ob9 := own_extW Ob8 W9 gb
  have N9 := Fr.snoc X9 N8 (Nat.le_trans Z0 g_a1)
  have Kp9 := Nat.le_trans Kp8 (Nat.le_of_eq W9.size.symm)
  refine own_by st9 ?_
  show own_End p e below _ (T9.setTop (mkF m 25 #[.val (.ref a1), .val (.int p1), .val (.int p2), .val (.int p3), .val (.int p4)] []))
  obtain ⟨fs, hr, hrun, hended, hW, hsame⟩ := X9.leave (v := none) (fun _ => rfl)
  refine ⟨_, _, X9.returnOut hx Bd.returns (hb hby own_d_prog_17_method_1_25) hr, hrun, hended, _, _, rfl, ?_, ⟨_, rfl⟩, hW, hsame.mono (by decide) (by decide)⟩
  have hfin : (T9.setFrames fs).heap = h9 := e9
  exact ⟨rfl, N9, by rw [hfin]; exact Ob9, by rw [hfin]; exact Kp9, by rw [hfin]; exact ⟨E9_x, F9_admitPerTick, F9_tickSeconds, F9_maxActive, F9_activeSeconds⟩⟩
set_option maxRecDepth 65536 in
set_option maxHeartbeats 40000000 in
theorem own_chi (l : Launch) (Z : State) (a0 : Array Value) (hw : ∀ d ∈ tables_1, d.before a0 Z = true) (ws : List Jvm.Cond) (a1 : Addr) (v1 v2 v3 v4 : Value) (h0 : Heap) (n0 : Nat) (hbs : Heap) (Ob : Ext hbs h0) (gb : hbs.size ≤ a1) (Z0 : n0 ≤ Z.heap.size) (g_a1 : Z.heap.size ≤ a1) (E_a1 : Exa Z h0 a1 "com/example/hongdae/hongdae/sale/WaitingRoom$Change") (F_admitPerTick : Fld Z h0 a1 "com/example/hongdae/hongdae/sale/WaitingRoom$Change" "admitPerTick" "Ljava/lang/Integer;" .null) (F_tickSeconds : Fld Z h0 a1 "com/example/hongdae/hongdae/sale/WaitingRoom$Change" "tickSeconds" "Ljava/lang/Integer;" .null) (F_maxActive : Fld Z h0 a1 "com/example/hongdae/hongdae/sale/WaitingRoom$Change" "maxActive" "Ljava/lang/Integer;" .null) (F_activeSeconds : Fld Z h0 a1 "com/example/hongdae/hongdae/sale/WaitingRoom$Change" "activeSeconds" "Ljava/lang/Integer;" .null) (hv1 : own_rf v1) (hv2 : own_rf v2) (hv3 : own_rf v3) (hv4 : own_rf v4) :
    own_Met l Z (⟨"com/example/hongdae/hongdae/sale/WaitingRoom$Change", "<init>", "(Ljava/lang/Integer;Ljava/lang/Integer;Ljava/lang/Integer;Ljava/lang/Integer;)V"⟩ : MethodName) prog_18_method_1_code 5 none ws ({ frames := 2, cells := 0, slots := 0, locals := 24 } : Room) #[(.ref a1), v1, v2, v3, v4] h0 (fun v h L => v = none ∧ Fr n0 L ∧ Ext hbs h ∧ h0.size ≤ h.size ∧ own_CHf Z h a1 v1 v2 v3 v4) := by
  refine MetFree.of_bodySF (plainFor_of_name own_pn4) hisR ?_
  intro p e s m args below meth c s₁ Bd hml0 hP hK
  obtain ⟨rfl, hZ, hh⟩ := hP
  have hx := Bd.exec
  have hby := Bd.bytes
  have hml : c.maxLocals = 5 := hml0
  have hown : s.vm.findClass "com/example/hongdae/hongdae/sale/WaitingRoom$Change" = some m.cls := findClass_of_methodNamed Bd.named
  have hnm := (name_of_methodNamed Bd.named Bd.method).1
  have X0 : Stand p l e ({ frames := 2, cells := 0, slots := 0, locals := 24 } : Room) s m #[(.ref a1), v1, v2, v3, v4] below meth c s₁ [] 0 0 := Stand.of_body Bd
  have e0 : s₁.heap = h0 := by rw [← hh, Bd.state]; rfl
  have N0 := Fr.nil n0
  have ef : entryFrame m #[(.ref a1), v1, v2, v3, v4] 5 = mkF m 0 #[.val (.ref a1), .val v1, .val v2, .val v3, .val v4] [] := by rcases hv1 with rfl | ⟨_, rfl⟩ <;> rcases hv2 with rfl | ⟨_, rfl⟩ <;> rcases hv3 with rfl | ⟨_, rfl⟩ <;> rcases hv4 with rfl | ⟨_, rfl⟩ <;> rfl
  show own_End p e below _ (s₁.setTop (entryFrame m #[(.ref a1), v1, v2, v3, v4] 5))
  refine own_by (fun _ k => castTop ef k) ?_
  show own_End p e below _ (s₁.setTop (mkF m 0 #[.val (.ref a1), .val v1, .val v2, .val v3, .val v4] []))
  refine own_by (fun _ k => XS.aloadN X0.here hx rfl (hb hby own_d_prog_18_method_1_0) rfl rfl k) ?_
  show own_End p e below _ (s₁.setTop (mkF m 1 #[.val (.ref a1), .val v1, .val v2, .val v3, .val v4] [(.ref a1)]))
  obtain ⟨_, _, ⟨T10, L10, k10, n10⟩, -, X10, ⟨Lc10, hQ10, l10, y10, z10⟩, st10⟩ := X0.specialBack hx (y := (⟨"java/lang/Record", "<init>", "()V"⟩ : MethodName)) rfl hown (mvT hZ (hw _ (List.mem_of_getElem? (i := 35) rfl))) (mvT hZ (hw _ (List.mem_of_getElem? (i := 7) rfl))) (mvT hZ (hw _ (List.mem_of_getElem? (i := 10) rfl))) (by decide) (own_back (W := 0) (own_rec l Z a0 hw [] a1 h0 n0) hZ (hw _ (List.mem_of_getElem? (i := 10) rfl)) (hw _ (List.mem_of_getElem? (i := 9) rfl)) (by decide) (by decide)) (g := (mkF m 1 #[.val (.ref a1), .val v1, .val v2, .val v3, .val v4] [(.ref a1)])) rfl (by rw [hml]; rfl) (Steps.refl _) (a := a1) (argsL := []) (rest := []) (lenOf own_pd0 rfl) rfl (by show 2 * 0 + _ ≤ _; exact Nat.le_of_eq rfl) (hb hby own_d_prog_18_method_1_1) (fun _ _ => ⟨rfl, e0, (by decide : 0 + 0 ≤ _), (by decide : 0 + 0 ≤ _)⟩)
  dsimp only [Pt.U, Pt.locs, Pt.cells, Pt.slots] at X10 l10 y10 z10 st10 hQ10
  subst l10 y10 z10
  obtain ⟨rfl, N10q, e10⟩ := hQ10
  have N10 := Fr.app N0 N10q
  refine own_by (fun _ k => st10.trans k) ?_
  show own_End p e below _ (T10.setTop (mkF m 4 #[.val (.ref a1), .val v1, .val v2, .val v3, .val v4] []))
  refine own_by (fun _ k => XS.aloadN X10.here hx rfl (hb hby own_d_prog_18_method_1_4) rfl rfl k) ?_
  show own_End p e below _ (T10.setTop (mkF m 5 #[.val (.ref a1), .val v1, .val v2, .val v3, .val v4] [(.ref a1)]))
  refine own_by (fun _ k => XS.aloadN X10.here hx rfl (hb hby own_d_prog_18_method_1_5) rfl hv1.is k) ?_
  show own_End p e below _ (T10.setTop (mkF m 6 #[.val (.ref a1), .val v1, .val v2, .val v3, .val v4] [v1, (.ref a1)]))
  obtain ⟨T11, h11, X11, e11, W11, st11⟩ := putF X10 hx hZ hown (host := "") (Or.inl (hw _ (List.mem_of_getElem? (i := 36) rfl))) Via.refl e10 F_admitPerTick E_a1 (Or.inr ⟨(hw _ (List.mem_of_getElem? (i := 37) rfl)), rfl, hnm⟩) (hw _ (List.mem_of_getElem? (i := 30) rfl)) (ty := (.object "java/lang/Integer")) (by decide) (hv1.nar "java/lang/Integer") (hv1.fit "java/lang/Integer") (g := (mkF m 6 #[.val (.ref a1), .val v1, .val v2, .val v3, .val v4] [v1, (.ref a1)])) rfl rfl (hb hby own_d_prog_18_method_1_6)
  have F11_admitPerTick := F_admitPerTick.same W11
  have F11_tickSeconds := F_tickSeconds.other W11 (Or.inr (slot_ne (Or.inr (hw _ (List.mem_of_getElem? (i := 39) rfl))) (Or.inr (hw _ (List.mem_of_getElem? (i := 37) rfl))) (by decide) (t := (.object "java/lang/Integer")) (t' := (.object "java/lang/Integer")) (by decide) (by decide)))
  have F11_maxActive := F_maxActive.other W11 (Or.inr (slot_ne (Or.inr (hw _ (List.mem_of_getElem? (i := 41) rfl))) (Or.inr (hw _ (List.mem_of_getElem? (i := 37) rfl))) (by decide) (t := (.object "java/lang/Integer")) (t' := (.object "java/lang/Integer")) (by decide) (by decide)))
  have F11_activeSeconds := F_activeSeconds.other W11 (Or.inr (slot_ne (Or.inr (hw _ (List.mem_of_getElem? (i := 43) rfl))) (Or.inr (hw _ (List.mem_of_getElem? (i := 37) rfl))) (by decide) (t := (.object "java/lang/Integer")) (t' := (.object "java/lang/Integer")) (by decide) (by decide)))
  have E11_x := E_a1.wr W11
  have Ob11 := own_extW Ob W11 gb
  have N11 := Fr.snoc X11 N10 (Nat.le_trans Z0 g_a1)
  have Kp11 := Nat.le_trans (Nat.le_refl h0.size) (Nat.le_of_eq W11.size.symm)
  refine own_by st11 ?_
  show own_End p e below _ (T11.setTop (mkF m 9 #[.val (.ref a1), .val v1, .val v2, .val v3, .val v4] []))
  refine own_by (fun _ k => XS.aloadN X11.here hx rfl (hb hby own_d_prog_18_method_1_9) rfl rfl k) ?_
  show own_End p e below _ (T11.setTop (mkF m 10 #[.val (.ref a1), .val v1, .val v2, .val v3, .val v4] [(.ref a1)]))
  refine own_by (fun _ k => XS.aloadN X11.here hx rfl (hb hby own_d_prog_18_method_1_10) rfl hv2.is k) ?_
  show own_End p e below _ (T11.setTop (mkF m 11 #[.val (.ref a1), .val v1, .val v2, .val v3, .val v4] [v2, (.ref a1)]))
  obtain ⟨T12, h12, X12, e12, W12, st12⟩ := putF X11 hx hZ hown (host := "") (Or.inl (hw _ (List.mem_of_getElem? (i := 38) rfl))) Via.refl e11 F11_tickSeconds E11_x (Or.inr ⟨(hw _ (List.mem_of_getElem? (i := 39) rfl)), rfl, hnm⟩) (hw _ (List.mem_of_getElem? (i := 30) rfl)) (ty := (.object "java/lang/Integer")) (by decide) (hv2.nar "java/lang/Integer") (hv2.fit "java/lang/Integer") (g := (mkF m 11 #[.val (.ref a1), .val v1, .val v2, .val v3, .val v4] [v2, (.ref a1)])) rfl rfl (hb hby own_d_prog_18_method_1_11)
  have F12_admitPerTick := F11_admitPerTick.other W12 (Or.inr (slot_ne (Or.inr (hw _ (List.mem_of_getElem? (i := 37) rfl))) (Or.inr (hw _ (List.mem_of_getElem? (i := 39) rfl))) (by decide) (t := (.object "java/lang/Integer")) (t' := (.object "java/lang/Integer")) (by decide) (by decide)))
  have F12_tickSeconds := F11_tickSeconds.same W12
  have F12_maxActive := F11_maxActive.other W12 (Or.inr (slot_ne (Or.inr (hw _ (List.mem_of_getElem? (i := 41) rfl))) (Or.inr (hw _ (List.mem_of_getElem? (i := 39) rfl))) (by decide) (t := (.object "java/lang/Integer")) (t' := (.object "java/lang/Integer")) (by decide) (by decide)))
  have F12_activeSeconds := F11_activeSeconds.other W12 (Or.inr (slot_ne (Or.inr (hw _ (List.mem_of_getElem? (i := 43) rfl))) (Or.inr (hw _ (List.mem_of_getElem? (i := 39) rfl))) (by decide) (t := (.object "java/lang/Integer")) (t' := (.object "java/lang/Integer")) (by decide) (by decide)))
  have E12_x := E11_x.wr W12
  have Ob12 := own_extW Ob11 W12 gb
  have N12 := Fr.snoc X12 N11 (Nat.le_trans Z0 g_a1)
  have Kp12 := Nat.le_trans Kp11 (Nat.le_of_eq W12.size.symm)
  refine own_by st12 ?_
  show own_End p e below _ (T12.setTop (mkF m 14 #[.val (.ref a1), .val v1, .val v2, .val v3, .val v4] []))
  refine own_by (fun _ k => XS.aloadN X12.here hx rfl (hb hby own_d_prog_18_method_1_14) rfl rfl k) ?_
  show own_End p e below _ (T12.setTop (mkF m 15 #[.val (.ref a1), .val v1, .val v2, .val v3, .val v4] [(.ref a1)]))
  refine own_by (fun _ k => XS.aloadN X12.here hx rfl (hb hby own_d_prog_18_method_1_15) rfl hv3.is k) ?_
  show own_End p e below _ (T12.setTop (mkF m 16 #[.val (.ref a1), .val v1, .val v2, .val v3, .val v4] [v3, (.ref a1)]))
  obtain ⟨T13, h13, X13, e13, W13, st13⟩ := putF X12 hx hZ hown (host := "") (Or.inl (hw _ (List.mem_of_getElem? (i := 40) rfl))) Via.refl e12 F12_maxActive E12_x (Or.inr ⟨(hw _ (List.mem_of_getElem? (i := 41) rfl)), rfl, hnm⟩) (hw _ (List.mem_of_getElem? (i := 30) rfl)) (ty := (.object "java/lang/Integer")) (by decide) (hv3.nar "java/lang/Integer") (hv3.fit "java/lang/Integer") (g := (mkF m 16 #[.val (.ref a1), .val v1, .val v2, .val v3, .val v4] [v3, (.ref a1)])) rfl rfl (hb hby own_d_prog_18_method_1_16)
  have F13_admitPerTick := F12_admitPerTick.other W13 (Or.inr (slot_ne (Or.inr (hw _ (List.mem_of_getElem? (i := 37) rfl))) (Or.inr (hw _ (List.mem_of_getElem? (i := 41) rfl))) (by decide) (t := (.object "java/lang/Integer")) (t' := (.object "java/lang/Integer")) (by decide) (by decide)))
  have F13_tickSeconds := F12_tickSeconds.other W13 (Or.inr (slot_ne (Or.inr (hw _ (List.mem_of_getElem? (i := 39) rfl))) (Or.inr (hw _ (List.mem_of_getElem? (i := 41) rfl))) (by decide) (t := (.object "java/lang/Integer")) (t' := (.object "java/lang/Integer")) (by decide) (by decide)))
  have F13_maxActive := F12_maxActive.same W13
  have F13_activeSeconds := F12_activeSeconds.other W13 (Or.inr (slot_ne (Or.inr (hw _ (List.mem_of_getElem? (i := 43) rfl))) (Or.inr (hw _ (List.mem_of_getElem? (i := 41) rfl))) (by decide) (t := (.object "java/lang/Integer")) (t' := (.object "java/lang/Integer")) (by decide) (by decide)))
  have E13_x := E12_x.wr W13
  have Ob13 := own_extW Ob12 W13 gb
  have N13 := Fr.snoc X13 N12 (Nat.le_trans Z0 g_a1)
  have Kp13 := Nat.le_trans Kp12 (Nat.le_of_eq W13.size.symm)
  refine own_by st13 ?_
  show own_End p e below _ (T13.setTop (mkF m 19 #[.val (.ref a1), .val v1, .val v2, .val v3, .val v4] []))
  refine own_by (fun _ k => XS.aloadN X13.here hx rfl (hb hby own_d_prog_18_method_1_19) rfl rfl k) ?_
  show own_End p e below _ (T13.setTop (mkF m 20 #[.val (.ref a1), .val v1, .val v2, .val v3, .val v4] [(.ref a1)]))
  refine own_by (fun _ k => XS.aload X13.here hx rfl (hb hby own_d_prog_18_method_1_20) rfl hv4.is k) ?_
  show own_End p e below _ (T13.setTop (mkF m 22 #[.val (.ref a1), .val v1, .val v2, .val v3, .val v4] [v4, (.ref a1)]))
  obtain ⟨T14, h14, X14, e14, W14, st14⟩ := putF X13 hx hZ hown (host := "") (Or.inl (hw _ (List.mem_of_getElem? (i := 42) rfl))) Via.refl e13 F13_activeSeconds E13_x (Or.inr ⟨(hw _ (List.mem_of_getElem? (i := 43) rfl)), rfl, hnm⟩) (hw _ (List.mem_of_getElem? (i := 30) rfl)) (ty := (.object "java/lang/Integer")) (by decide) (hv4.nar "java/lang/Integer") (hv4.fit "java/lang/Integer") (g := (mkF m 22 #[.val (.ref a1), .val v1, .val v2, .val v3, .val v4] [v4, (.ref a1)])) rfl rfl (hb hby own_d_prog_18_method_1_22)
  have F14_admitPerTick := F13_admitPerTick.other W14 (Or.inr (slot_ne (Or.inr (hw _ (List.mem_of_getElem? (i := 37) rfl))) (Or.inr (hw _ (List.mem_of_getElem? (i := 43) rfl))) (by decide) (t := (.object "java/lang/Integer")) (t' := (.object "java/lang/Integer")) (by decide) (by decide)))
  have F14_tickSeconds := F13_tickSeconds.other W14 (Or.inr (slot_ne (Or.inr (hw _ (List.mem_of_getElem? (i := 39) rfl))) (Or.inr (hw _ (List.mem_of_getElem? (i := 43) rfl))) (by decide) (t := (.object "java/lang/Integer")) (t' := (.object "java/lang/Integer")) (by decide) (by decide)))
  have F14_maxActive := F13_maxActive.other W14 (Or.inr (slot_ne (Or.inr (hw _ (List.mem_of_getElem? (i := 41) rfl))) (Or.inr (hw _ (List.mem_of_getElem? (i := 43) rfl))) (by decide) (t := (.object "java/lang/Integer")) (t' := (.object "java/lang/Integer")) (by decide) (by decide)))
  have F14_activeSeconds := F13_activeSeconds.same W14
  have E14_x := E13_x.wr W14
  have Ob14 := own_extW Ob13 W14 gb
  have N14 := Fr.snoc X14 N13 (Nat.le_trans Z0 g_a1)
  have Kp14 := Nat.le_trans Kp13 (Nat.le_of_eq W14.size.symm)
  refine own_by st14 ?_
  show own_End p e below _ (T14.setTop (mkF m 25 #[.val (.ref a1), .val v1, .val v2, .val v3, .val v4] []))
  obtain ⟨fs, hr, hrun, hended, hW, hsame⟩ := X14.leave (v := none) (fun _ => rfl)
  refine ⟨_, _, X14.returnOut hx Bd.returns (hb hby own_d_prog_18_method_1_25) hr, hrun, hended, _, _, rfl, ?_, ⟨_, rfl⟩, hW, hsame.mono (by decide) (by decide)⟩
  have hfin : (T14.setFrames fs).heap = h14 := e14
  exact ⟨rfl, N14, by rw [hfin]; exact Ob14, by rw [hfin]; exact Kp14, by rw [hfin]; exact ⟨E14_x, F14_admitPerTick, F14_tickSeconds, F14_maxActive, F14_activeSeconds⟩⟩
set_option maxRecDepth 65536 in
set_option maxHeartbeats 40000000 in
theorem own_vof (l : Launch) (Z : State) (a0 : Array Value) (hw : ∀ d ∈ tables_1, d.before a0 Z = true) (ws : List Jvm.Cond) (p1 : Int32) (h0 : Heap) (n0 : Nat) (Z0 : n0 ≤ Z.heap.size) (O : Ext Z.heap h0) (hC : own_IC Z) :
    own_Met l Z (⟨"java/lang/Integer", "valueOf", "(I)Ljava/lang/Integer;"⟩ : MethodName) jdk_33_method_22_code 1 (some (.object "java/lang/Integer")) ws ({ frames := 3, cells := 1, slots := 1, locals := 38 } : Room) #[(.int p1)] h0 (fun v h L => ∃ a, v = some (.ref a) ∧ Fr n0 L ∧ Ext h0 h ∧ Exa Z h a "java/lang/Integer" ∧ Fld Z h a "java/lang/Integer" "value" "I" (.int p1)) := by
  refine MetFree.of_bodySF (plainFor_of_name own_pn2) hisR ?_
  intro p e s m args below meth c s₁ Bd hml0 hP hK
  obtain ⟨rfl, hZ, hh⟩ := hP
  have hx := Bd.exec
  have hby := Bd.bytes
  have hml : c.maxLocals = 1 := hml0
  have hown : s.vm.findClass "java/lang/Integer" = some m.cls := findClass_of_methodNamed Bd.named
  have hnm := (name_of_methodNamed Bd.named Bd.method).1
  have X0 : Stand p l e ({ frames := 3, cells := 1, slots := 1, locals := 38 } : Room) s m #[(.int p1)] below meth c s₁ [] 0 0 := Stand.of_body Bd
  have e0 : s₁.heap = h0 := by rw [← hh, Bd.state]; rfl
  have N0 := Fr.nil n0
  obtain ⟨ca, cl, Sh, Sc, Bx⟩ := hC
  have ef : entryFrame m #[(.int p1)] 1 = mkF m 0 #[.val (.int p1)] [] := by first | (simp [entryFrame, mkF, argsToLocals, Value.category, maxLocals]; done) | rfl
  show own_End p e below _ (s₁.setTop (entryFrame m #[(.int p1)] 1))
  refine own_by (fun _ k => castTop ef k) ?_
  show own_End p e below _ (s₁.setTop (mkF m 0 #[.val (.int p1)] []))
  refine own_by (fun _ k => XS.iloadN X0.here hx rfl (hb hby own_d_jdk_33_method_22_0) rfl k) ?_
  show own_End p e below _ (s₁.setTop (mkF m 1 #[.val (.int p1)] [(.int p1)]))
  refine own_by (fun _ k => XS.bipush X0.here hx rfl (hb hby own_d_jdk_33_method_22_1) k) ?_
  show own_End p e below _ (s₁.setTop (mkF m 3 #[.val (.int p1)] [(.int (-128 : Int32)), (.int p1)]))
  rcases Decidable.em (p1 < (-128 : Int32)) with hc3_15 | hc3_15
  · -- 3 True
    refine own_by (fun _ k => XS.icmpYes X0.here hx rfl (pc0 := 3) (pc' := 23) rfl (hb hby own_d_jdk_33_method_22_3) rfl (tlt hc3_15).1 (by decide) (by decide) k) ?_
    show own_End p e below _ (s₁.setTop (mkF m 23 #[.val (.int p1)] []))
    obtain ⟨T16, h16, X16, e16, E16, A16, D16, -, st16⟩ := newO X0 hx hZ hown (hw _ (List.mem_of_getElem? (i := 56) rfl)) (hw _ (List.mem_of_getElem? (i := 57) rfl)) (hw _ (List.mem_of_getElem? (i := 24) rfl)) e0 (g := (mkF m 23 #[.val (.int p1)] [])) rfl (hb hby own_d_jdk_33_method_22_23) (by decide) (by decide)
    obtain ⟨b16, g16⟩ : ∃ z, z = h0.size := ⟨_, rfl⟩
    rw [← g16] at A16 D16 st16
    have g_b16 : Z.heap.size ≤ b16 := Nat.le_trans O.1 (Nat.le_of_eq g16.symm)
    have F16_value : Fld Z h16 b16 "java/lang/Integer" "value" "I" (.int (0 : Int32)) := D16 (Or.inr (hw _ (List.mem_of_getElem? (i := 70) rfl))) (ty := .int) (by decide)
    refine own_by st16 ?_
    show own_End p e below _ (T16.setTop (mkF m 26 #[.val (.int p1)] [(.ref b16)]))
    refine own_by (fun _ k => XS.dup X16.here hx rfl (hb hby own_d_jdk_33_method_22_26) rfl rfl k) ?_
    show own_End p e below _ (T16.setTop (mkF m 27 #[.val (.int p1)] [(.ref b16), (.ref b16)]))
    refine own_by (fun _ k => XS.iloadN X16.here hx rfl (hb hby own_d_jdk_33_method_22_27) rfl k) ?_
    show own_End p e below _ (T16.setTop (mkF m 28 #[.val (.int p1)] [(.int p1), (.ref b16), (.ref b16)]))
    obtain ⟨_, _, ⟨T17, L17, k17, n17⟩, -, X17, ⟨Lc17, hQ17, l17, y17, z17⟩, st17⟩ := X16.specialBack hx (y := (⟨"java/lang/Integer", "<init>", "(I)V"⟩ : MethodName)) rfl hown (mvT hZ (hw _ (List.mem_of_getElem? (i := 58) rfl))) (mvT hZ (hw _ (List.mem_of_getElem? (i := 59) rfl))) (mvT hZ (hw _ (List.mem_of_getElem? (i := 61) rfl))) (by decide) (own_back (W := 1) (own_inti l Z a0 hw [] b16 p1 h16 n0 h0 E16 (Nat.le_of_eq g16.symm) Z0 g_b16 A16 F16_value) hZ (hw _ (List.mem_of_getElem? (i := 61) rfl)) (hw _ (List.mem_of_getElem? (i := 24) rfl)) (by decide) (by decide)) (g := (mkF m 28 #[.val (.int p1)] [(.int p1), (.ref b16), (.ref b16)])) rfl (by rw [hml]; rfl) (Steps.refl _) (a := b16) (argsL := [(.int p1)]) (rest := [(.ref b16)]) (lenOf own_pd1 rfl) rfl (by show 2 * 0 + _ ≤ _; exact Nat.le_of_eq rfl) (hb hby own_d_jdk_33_method_22_28) (fun _ _ => ⟨rfl, e16, (by decide : 1 + 0 ≤ _), (by decide : 1 + 0 ≤ _)⟩)
    dsimp only [Pt.U, Pt.locs, Pt.cells, Pt.slots] at X17 l17 y17 z17 st17 hQ17
    subst l17 y17 z17
    obtain ⟨rfl, N17q, Ob17, Kp17, Fm17⟩ := hQ17
    have N17 := Fr.app N0 N17q
    refine own_by (fun _ k => st17.trans k) ?_
    have O17 := own_ext O Ob17
    show own_End p e below _ (T17.setTop (mkF m 31 #[.val (.int p1)] [(.ref b16)]))
    obtain ⟨fs, hr, hrun, hended, hW, hsame⟩ := X17.leave (v := (some (.ref b16))) (fun h => by rw [Bd.returns] at h; cases h)
    refine ⟨_, _, retOut X17 hx Bd.returns rfl (Or.inr (Or.inr (Or.inr (Or.inr ⟨rfl, rfl, rfl⟩)))) (hb hby own_d_jdk_33_method_22_31) hr, hrun, hended, _, _, rfl, ?_, ⟨_, rfl⟩, hW, hsame.mono (by decide) (by decide)⟩
    have hfin : (T17.setFrames fs).heap = T17.heap := rfl
    exact ⟨_, rfl, N17, Ob17, Fm17.1, Fm17.2⟩
  · -- 3 False
    refine own_by (fun _ k => XS.icmpNo X0.here hx rfl (hb hby own_d_jdk_33_method_22_3) rfl (flt hc3_15).1 k) ?_
    show own_End p e below _ (s₁.setTop (mkF m 6 #[.val (.int p1)] []))
    refine own_by (fun _ k => XS.iloadN X0.here hx rfl (hb hby own_d_jdk_33_method_22_6) rfl k) ?_
    show own_End p e below _ (s₁.setTop (mkF m 7 #[.val (.int p1)] [(.int p1)]))
    obtain ⟨T18, X18, e18, st18⟩ := getS2 X0 hx hZ hown (host := "") (Or.inl (hw _ (List.mem_of_getElem? (i := 26) rfl))) Via.refl e0 (Sh.ext O) (g := (mkF m 7 #[.val (.int p1)] [(.int p1)])) rfl (hb hby own_d_jdk_33_method_22_7)
    refine own_by st18 ?_
    show own_End p e below _ (T18.setTop (mkF m 10 #[.val (.int p1)] [(.int (127 : Int32)), (.int p1)]))
    rcases Decidable.em ((127 : Int32) < p1) with hc10_19 | hc10_19
    · -- 10 True
      refine own_by (fun _ k => XS.icmpYes X18.here hx rfl (pc0 := 10) (pc' := 23) rfl (hb hby own_d_jdk_33_method_22_10) rfl (tlt hc10_19).2.2.1 (by decide) (by decide) k) ?_
      show own_End p e below _ (T18.setTop (mkF m 23 #[.val (.int p1)] []))
      obtain ⟨T20, h20, X20, e20, E20, A20, D20, -, st20⟩ := newO X18 hx hZ hown (hw _ (List.mem_of_getElem? (i := 56) rfl)) (hw _ (List.mem_of_getElem? (i := 57) rfl)) (hw _ (List.mem_of_getElem? (i := 24) rfl)) e18 (g := (mkF m 23 #[.val (.int p1)] [])) rfl (hb hby own_d_jdk_33_method_22_23) (by decide) (by decide)
      obtain ⟨b20, g20⟩ : ∃ z, z = h0.size := ⟨_, rfl⟩
      rw [← g20] at A20 D20 st20
      have g_b20 : Z.heap.size ≤ b20 := Nat.le_trans O.1 (Nat.le_of_eq g20.symm)
      have F20_value : Fld Z h20 b20 "java/lang/Integer" "value" "I" (.int (0 : Int32)) := D20 (Or.inr (hw _ (List.mem_of_getElem? (i := 70) rfl))) (ty := .int) (by decide)
      refine own_by st20 ?_
      show own_End p e below _ (T20.setTop (mkF m 26 #[.val (.int p1)] [(.ref b20)]))
      refine own_by (fun _ k => XS.dup X20.here hx rfl (hb hby own_d_jdk_33_method_22_26) rfl rfl k) ?_
      show own_End p e below _ (T20.setTop (mkF m 27 #[.val (.int p1)] [(.ref b20), (.ref b20)]))
      refine own_by (fun _ k => XS.iloadN X20.here hx rfl (hb hby own_d_jdk_33_method_22_27) rfl k) ?_
      show own_End p e below _ (T20.setTop (mkF m 28 #[.val (.int p1)] [(.int p1), (.ref b20), (.ref b20)]))
      obtain ⟨_, _, ⟨T21, L21, k21, n21⟩, -, X21, ⟨Lc21, hQ21, l21, y21, z21⟩, st21⟩ := X20.specialBack hx (y := (⟨"java/lang/Integer", "<init>", "(I)V"⟩ : MethodName)) rfl hown (mvT hZ (hw _ (List.mem_of_getElem? (i := 58) rfl))) (mvT hZ (hw _ (List.mem_of_getElem? (i := 59) rfl))) (mvT hZ (hw _ (List.mem_of_getElem? (i := 61) rfl))) (by decide) (own_back (W := 1) (own_inti l Z a0 hw [] b20 p1 h20 n0 h0 E20 (Nat.le_of_eq g20.symm) Z0 g_b20 A20 F20_value) hZ (hw _ (List.mem_of_getElem? (i := 61) rfl)) (hw _ (List.mem_of_getElem? (i := 24) rfl)) (by decide) (by decide)) (g := (mkF m 28 #[.val (.int p1)] [(.int p1), (.ref b20), (.ref b20)])) rfl (by rw [hml]; rfl) (Steps.refl _) (a := b20) (argsL := [(.int p1)]) (rest := [(.ref b20)]) (lenOf own_pd1 rfl) rfl (by show 2 * 0 + _ ≤ _; exact Nat.le_of_eq rfl) (hb hby own_d_jdk_33_method_22_28) (fun _ _ => ⟨rfl, e20, (by decide : 1 + 0 ≤ _), (by decide : 1 + 0 ≤ _)⟩)
      dsimp only [Pt.U, Pt.locs, Pt.cells, Pt.slots] at X21 l21 y21 z21 st21 hQ21
      subst l21 y21 z21
      obtain ⟨rfl, N21q, Ob21, Kp21, Fm21⟩ := hQ21
      have N21 := Fr.app N0 N21q
      refine own_by (fun _ k => st21.trans k) ?_
      have O21 := own_ext O Ob21
      show own_End p e below _ (T21.setTop (mkF m 31 #[.val (.int p1)] [(.ref b20)]))
      obtain ⟨fs, hr, hrun, hended, hW, hsame⟩ := X21.leave (v := (some (.ref b20))) (fun h => by rw [Bd.returns] at h; cases h)
      refine ⟨_, _, retOut X21 hx Bd.returns rfl (Or.inr (Or.inr (Or.inr (Or.inr ⟨rfl, rfl, rfl⟩)))) (hb hby own_d_jdk_33_method_22_31) hr, hrun, hended, _, _, rfl, ?_, ⟨_, rfl⟩, hW, hsame.mono (by decide) (by decide)⟩
      have hfin : (T21.setFrames fs).heap = T21.heap := rfl
      exact ⟨_, rfl, N21, Ob21, Fm21.1, Fm21.2⟩
    · -- 10 False
      refine own_by (fun _ k => XS.icmpNo X18.here hx rfl (hb hby own_d_jdk_33_method_22_10) rfl (flt hc10_19).2.2.1 k) ?_
      show own_End p e below _ (T18.setTop (mkF m 13 #[.val (.int p1)] []))
      obtain ⟨T22, X22, e22, st22⟩ := getS2 X18 hx hZ hown (host := "") (Or.inl (hw _ (List.mem_of_getElem? (i := 28) rfl))) Via.refl e18 (Sc.ext O) (g := (mkF m 13 #[.val (.int p1)] [])) rfl (hb hby own_d_jdk_33_method_22_13)
      refine own_by st22 ?_
      show own_End p e below _ (T22.setTop (mkF m 16 #[.val (.int p1)] [(.ref ca)]))
      refine own_by (fun _ k => XS.iloadN X22.here hx rfl (hb hby own_d_jdk_33_method_22_16) rfl k) ?_
      show own_End p e below _ (T22.setTop (mkF m 17 #[.val (.int p1)] [(.int p1), (.ref ca)]))
      refine own_by (fun _ k => XS.sipush X22.here hx rfl (hb hby own_d_jdk_33_method_22_17) k) ?_
      show own_End p e below _ (T22.setTop (mkF m 20 #[.val (.int p1)] [(.int (128 : Int32)), (.int p1), (.ref ca)]))
      refine own_by (fun _ k => XS.iadd X22.here hx rfl (hb hby own_d_jdk_33_method_22_20) rfl k) ?_
      show own_End p e below _ (T22.setTop (mkF m 21 #[.val (.int p1)] [(.int (p1 + (128 : Int32))), (.ref ca)]))
      obtain ⟨Ar, S_, M_⟩ := Bx.ext O
      obtain ⟨q1, q2, q3⟩ := own_inb hc3_15 hc10_19
      have hin : ¬ ((p1 + (128 : Int32)) < 0 ∨ cl.slots.size ≤ ((p1 + (128 : Int32))).toNatClampNeg) := inb_of S_ ⟨q1, q2⟩
      obtain ⟨bx, hat, Eb, Fb⟩ := Bx.2.2.2 _ hin
      simp only [q3] at Fb
      refine own_by (fun _ k => X22.aaload hx (j := (p1 + (128 : Int32))) (v := (.ref bx)) (by rw [e22]; exact Ar.1) (State.isArrayOf_alike hZ.alike Ar.2.1) rfl Ar.2.2 hin hat (g := (mkF m 21 #[.val (.int p1)] [(.int (p1 + (128 : Int32))), (.ref ca)])) rfl rfl (hb hby own_d_jdk_33_method_22_21) _ k) ?_
      show own_End p e below _ (T22.setTop (mkF m 22 #[.val (.int p1)] [(.ref bx)]))
      obtain ⟨fs, hr, hrun, hended, hW, hsame⟩ := X22.leave (v := (some (.ref bx))) (fun h => by rw [Bd.returns] at h; cases h)
      refine ⟨_, _, retOut X22 hx Bd.returns rfl (Or.inr (Or.inr (Or.inr (Or.inr ⟨rfl, rfl, rfl⟩)))) (hb hby own_d_jdk_33_method_22_22) hr, hrun, hended, _, _, rfl, ?_, ⟨_, rfl⟩, hW, hsame.mono (by decide) (by decide)⟩
      have hfin : (T22.setFrames fs).heap = h0 := e22
      exact ⟨bx, rfl, N0, by rw [hfin]; exact ⟨Nat.le_refl _, fun _ _ q => q⟩, by rw [hfin]; exact Eb.ext O, by rw [hfin]; exact Fb.ext O⟩
set_option maxRecDepth 65536 in
set_option maxHeartbeats 40000000 in
theorem own_get1 (l : Launch) (Z : State) (a0 : Array Value) (hw : ∀ d ∈ tables_1, d.before a0 Z = true) (ws : List Jvm.Cond) (a1 : Addr) (k : Int32) (h0 : Heap) (n0 : Nat) (F_k : Fld Z h0 a1 "com/example/hongdae/hongdae/sale/WaitingRoom" "admitPerTick" "I" (.int k)) :
    own_Met l Z (⟨"com/example/hongdae/hongdae/sale/WaitingRoom", "admitPerTick", "()I"⟩ : MethodName) prog_17_method_5_code 1 (some .int) ws ({ frames := 0, cells := 0, slots := 0, locals := 0 } : Room) #[(.ref a1)] h0 (fun v h L => v = some (.int k) ∧ Fr n0 L ∧ h = h0) := by
  refine MetFree.of_bodySF (plainFor_of_name own_pn3) hisR ?_
  intro p e s m args below meth c s₁ Bd hml0 hP hK
  obtain ⟨rfl, hZ, hh⟩ := hP
  have hx := Bd.exec
  have hby := Bd.bytes
  have hml : c.maxLocals = 1 := hml0
  have hown : s.vm.findClass "com/example/hongdae/hongdae/sale/WaitingRoom" = some m.cls := findClass_of_methodNamed Bd.named
  have hnm := (name_of_methodNamed Bd.named Bd.method).1
  have X0 : Stand p l e ({ frames := 0, cells := 0, slots := 0, locals := 0 } : Room) s m #[(.ref a1)] below meth c s₁ [] 0 0 := Stand.of_body Bd
  have e0 : s₁.heap = h0 := by rw [← hh, Bd.state]; rfl
  have N0 := Fr.nil n0
  have ef : entryFrame m #[(.ref a1)] 1 = mkF m 0 #[.val (.ref a1)] [] := by first | (simp [entryFrame, mkF, argsToLocals, Value.category, maxLocals]; done) | rfl
  show own_End p e below _ (s₁.setTop (entryFrame m #[(.ref a1)] 1))
  refine own_by (fun _ k => castTop ef k) ?_
  show own_End p e below _ (s₁.setTop (mkF m 0 #[.val (.ref a1)] []))
  refine own_by (fun _ k => XS.aloadN X0.here hx rfl (hb hby own_d_prog_17_method_5_0) rfl rfl k) ?_
  show own_End p e below _ (s₁.setTop (mkF m 1 #[.val (.ref a1)] [(.ref a1)]))
  obtain ⟨T23, X23, e23, st23⟩ := getF X0 hx hZ hown (host := "") (Or.inl (hw _ (List.mem_of_getElem? (i := 14) rfl))) Via.refl e0 F_k (g := (mkF m 1 #[.val (.ref a1)] [(.ref a1)])) rfl rfl (hb hby own_d_prog_17_method_5_1)
  refine own_by st23 ?_
  show own_End p e below _ (T23.setTop (mkF m 4 #[.val (.ref a1)] [(.int k)]))
  obtain ⟨fs, hr, hrun, hended, hW, hsame⟩ := X23.leave (v := (some (.int k))) (fun h => by rw [Bd.returns] at h; cases h)
  refine ⟨_, _, retOut X23 hx Bd.returns rfl (Or.inl ⟨rfl, Or.inl rfl, _, rfl⟩) (hb hby own_d_prog_17_method_5_4) hr, hrun, hended, _, _, rfl, ?_, ⟨_, rfl⟩, hW, hsame.mono (by decide) (by decide)⟩
  exact ⟨rfl, N0, e23⟩
set_option maxRecDepth 65536 in
set_option maxHeartbeats 40000000 in
theorem own_get2 (l : Launch) (Z : State) (a0 : Array Value) (hw : ∀ d ∈ tables_1, d.before a0 Z = true) (ws : List Jvm.Cond) (a1 : Addr) (k : Int32) (h0 : Heap) (n0 : Nat) (F_k : Fld Z h0 a1 "com/example/hongdae/hongdae/sale/WaitingRoom" "tickSeconds" "I" (.int k)) :
    own_Met l Z (⟨"com/example/hongdae/hongdae/sale/WaitingRoom", "tickSeconds", "()I"⟩ : MethodName) prog_17_method_6_code 1 (some .int) ws ({ frames := 0, cells := 0, slots := 0, locals := 0 } : Room) #[(.ref a1)] h0 (fun v h L => v = some (.int k) ∧ Fr n0 L ∧ h = h0) := by
  refine MetFree.of_bodySF (plainFor_of_name own_pn3) hisR ?_
  intro p e s m args below meth c s₁ Bd hml0 hP hK
  obtain ⟨rfl, hZ, hh⟩ := hP
  have hx := Bd.exec
  have hby := Bd.bytes
  have hml : c.maxLocals = 1 := hml0
  have hown : s.vm.findClass "com/example/hongdae/hongdae/sale/WaitingRoom" = some m.cls := findClass_of_methodNamed Bd.named
  have hnm := (name_of_methodNamed Bd.named Bd.method).1
  have X0 : Stand p l e ({ frames := 0, cells := 0, slots := 0, locals := 0 } : Room) s m #[(.ref a1)] below meth c s₁ [] 0 0 := Stand.of_body Bd
  have e0 : s₁.heap = h0 := by rw [← hh, Bd.state]; rfl
  have N0 := Fr.nil n0
  have ef : entryFrame m #[(.ref a1)] 1 = mkF m 0 #[.val (.ref a1)] [] := by first | (simp [entryFrame, mkF, argsToLocals, Value.category, maxLocals]; done) | rfl
  show own_End p e below _ (s₁.setTop (entryFrame m #[(.ref a1)] 1))
  refine own_by (fun _ k => castTop ef k) ?_
  show own_End p e below _ (s₁.setTop (mkF m 0 #[.val (.ref a1)] []))
  refine own_by (fun _ k => XS.aloadN X0.here hx rfl (hb hby own_d_prog_17_method_6_0) rfl rfl k) ?_
  show own_End p e below _ (s₁.setTop (mkF m 1 #[.val (.ref a1)] [(.ref a1)]))
  obtain ⟨T24, X24, e24, st24⟩ := getF X0 hx hZ hown (host := "") (Or.inl (hw _ (List.mem_of_getElem? (i := 16) rfl))) Via.refl e0 F_k (g := (mkF m 1 #[.val (.ref a1)] [(.ref a1)])) rfl rfl (hb hby own_d_prog_17_method_6_1)
  refine own_by st24 ?_
  show own_End p e below _ (T24.setTop (mkF m 4 #[.val (.ref a1)] [(.int k)]))
  obtain ⟨fs, hr, hrun, hended, hW, hsame⟩ := X24.leave (v := (some (.int k))) (fun h => by rw [Bd.returns] at h; cases h)
  refine ⟨_, _, retOut X24 hx Bd.returns rfl (Or.inl ⟨rfl, Or.inl rfl, _, rfl⟩) (hb hby own_d_prog_17_method_6_4) hr, hrun, hended, _, _, rfl, ?_, ⟨_, rfl⟩, hW, hsame.mono (by decide) (by decide)⟩
  exact ⟨rfl, N0, e24⟩
set_option maxRecDepth 65536 in
set_option maxHeartbeats 40000000 in
theorem own_get3 (l : Launch) (Z : State) (a0 : Array Value) (hw : ∀ d ∈ tables_1, d.before a0 Z = true) (ws : List Jvm.Cond) (a1 : Addr) (k : Int32) (h0 : Heap) (n0 : Nat) (F_k : Fld Z h0 a1 "com/example/hongdae/hongdae/sale/WaitingRoom" "maxActive" "I" (.int k)) :
    own_Met l Z (⟨"com/example/hongdae/hongdae/sale/WaitingRoom", "maxActive", "()I"⟩ : MethodName) prog_17_method_7_code 1 (some .int) ws ({ frames := 0, cells := 0, slots := 0, locals := 0 } : Room) #[(.ref a1)] h0 (fun v h L => v = some (.int k) ∧ Fr n0 L ∧ h = h0) := by
  refine MetFree.of_bodySF (plainFor_of_name own_pn3) hisR ?_
  intro p e s m args below meth c s₁ Bd hml0 hP hK
  obtain ⟨rfl, hZ, hh⟩ := hP
  have hx := Bd.exec
  have hby := Bd.bytes
  have hml : c.maxLocals = 1 := hml0
  have hown : s.vm.findClass "com/example/hongdae/hongdae/sale/WaitingRoom" = some m.cls := findClass_of_methodNamed Bd.named
  have hnm := (name_of_methodNamed Bd.named Bd.method).1
  have X0 : Stand p l e ({ frames := 0, cells := 0, slots := 0, locals := 0 } : Room) s m #[(.ref a1)] below meth c s₁ [] 0 0 := Stand.of_body Bd
  have e0 : s₁.heap = h0 := by rw [← hh, Bd.state]; rfl
  have N0 := Fr.nil n0
  have ef : entryFrame m #[(.ref a1)] 1 = mkF m 0 #[.val (.ref a1)] [] := by first | (simp [entryFrame, mkF, argsToLocals, Value.category, maxLocals]; done) | rfl
  show own_End p e below _ (s₁.setTop (entryFrame m #[(.ref a1)] 1))
  refine own_by (fun _ k => castTop ef k) ?_
  show own_End p e below _ (s₁.setTop (mkF m 0 #[.val (.ref a1)] []))
  refine own_by (fun _ k => XS.aloadN X0.here hx rfl (hb hby own_d_prog_17_method_7_0) rfl rfl k) ?_
  show own_End p e below _ (s₁.setTop (mkF m 1 #[.val (.ref a1)] [(.ref a1)]))
  obtain ⟨T25, X25, e25, st25⟩ := getF X0 hx hZ hown (host := "") (Or.inl (hw _ (List.mem_of_getElem? (i := 18) rfl))) Via.refl e0 F_k (g := (mkF m 1 #[.val (.ref a1)] [(.ref a1)])) rfl rfl (hb hby own_d_prog_17_method_7_1)
  refine own_by st25 ?_
  show own_End p e below _ (T25.setTop (mkF m 4 #[.val (.ref a1)] [(.int k)]))
  obtain ⟨fs, hr, hrun, hended, hW, hsame⟩ := X25.leave (v := (some (.int k))) (fun h => by rw [Bd.returns] at h; cases h)
  refine ⟨_, _, retOut X25 hx Bd.returns rfl (Or.inl ⟨rfl, Or.inl rfl, _, rfl⟩) (hb hby own_d_prog_17_method_7_4) hr, hrun, hended, _, _, rfl, ?_, ⟨_, rfl⟩, hW, hsame.mono (by decide) (by decide)⟩
  exact ⟨rfl, N0, e25⟩
set_option maxRecDepth 65536 in
set_option maxHeartbeats 40000000 in
theorem own_get4 (l : Launch) (Z : State) (a0 : Array Value) (hw : ∀ d ∈ tables_1, d.before a0 Z = true) (ws : List Jvm.Cond) (a1 : Addr) (k : Int32) (h0 : Heap) (n0 : Nat) (F_k : Fld Z h0 a1 "com/example/hongdae/hongdae/sale/WaitingRoom" "activeSeconds" "I" (.int k)) :
    own_Met l Z (⟨"com/example/hongdae/hongdae/sale/WaitingRoom", "activeSeconds", "()I"⟩ : MethodName) prog_17_method_8_code 1 (some .int) ws ({ frames := 0, cells := 0, slots := 0, locals := 0 } : Room) #[(.ref a1)] h0 (fun v h L => v = some (.int k) ∧ Fr n0 L ∧ h = h0) := by
  refine MetFree.of_bodySF (plainFor_of_name own_pn3) hisR ?_
  intro p e s m args below meth c s₁ Bd hml0 hP hK
  obtain ⟨rfl, hZ, hh⟩ := hP
  have hx := Bd.exec
  have hby := Bd.bytes
  have hml : c.maxLocals = 1 := hml0
  have hown : s.vm.findClass "com/example/hongdae/hongdae/sale/WaitingRoom" = some m.cls := findClass_of_methodNamed Bd.named
  have hnm := (name_of_methodNamed Bd.named Bd.method).1
  have X0 : Stand p l e ({ frames := 0, cells := 0, slots := 0, locals := 0 } : Room) s m #[(.ref a1)] below meth c s₁ [] 0 0 := Stand.of_body Bd
  have e0 : s₁.heap = h0 := by rw [← hh, Bd.state]; rfl
  have N0 := Fr.nil n0
  have ef : entryFrame m #[(.ref a1)] 1 = mkF m 0 #[.val (.ref a1)] [] := by first | (simp [entryFrame, mkF, argsToLocals, Value.category, maxLocals]; done) | rfl
  show own_End p e below _ (s₁.setTop (entryFrame m #[(.ref a1)] 1))
  refine own_by (fun _ k => castTop ef k) ?_
  show own_End p e below _ (s₁.setTop (mkF m 0 #[.val (.ref a1)] []))
  refine own_by (fun _ k => XS.aloadN X0.here hx rfl (hb hby own_d_prog_17_method_8_0) rfl rfl k) ?_
  show own_End p e below _ (s₁.setTop (mkF m 1 #[.val (.ref a1)] [(.ref a1)]))
  obtain ⟨T26, X26, e26, st26⟩ := getF X0 hx hZ hown (host := "") (Or.inl (hw _ (List.mem_of_getElem? (i := 20) rfl))) Via.refl e0 F_k (g := (mkF m 1 #[.val (.ref a1)] [(.ref a1)])) rfl rfl (hb hby own_d_prog_17_method_8_1)
  refine own_by st26 ?_
  show own_End p e below _ (T26.setTop (mkF m 4 #[.val (.ref a1)] [(.int k)]))
  obtain ⟨fs, hr, hrun, hended, hW, hsame⟩ := X26.leave (v := (some (.int k))) (fun h => by rw [Bd.returns] at h; cases h)
  refine ⟨_, _, retOut X26 hx Bd.returns rfl (Or.inl ⟨rfl, Or.inl rfl, _, rfl⟩) (hb hby own_d_prog_17_method_8_4) hr, hrun, hended, _, _, rfl, ?_, ⟨_, rfl⟩, hW, hsame.mono (by decide) (by decide)⟩
  exact ⟨rfl, N0, e26⟩
set_option maxRecDepth 65536 in
set_option maxHeartbeats 40000000 in
theorem own_ival (l : Launch) (Z : State) (a0 : Array Value) (hw : ∀ d ∈ tables_1, d.before a0 Z = true) (ws : List Jvm.Cond) (a1 : Addr) (k : Int32) (h0 : Heap) (n0 : Nat) (F_k : Fld Z h0 a1 "java/lang/Integer" "value" "I" (.int k)) :
    own_Met l Z (⟨"java/lang/Integer", "intValue", "()I"⟩ : MethodName) jdk_33_method_27_code 1 (some .int) ws ({ frames := 0, cells := 0, slots := 0, locals := 0 } : Room) #[(.ref a1)] h0 (fun v h L => v = some (.int k) ∧ Fr n0 L ∧ h = h0) := by
  refine MetFree.of_bodySF (plainFor_of_name own_pn2) hisR ?_
  intro p e s m args below meth c s₁ Bd hml0 hP hK
  obtain ⟨rfl, hZ, hh⟩ := hP
  have hx := Bd.exec
  have hby := Bd.bytes
  have hml : c.maxLocals = 1 := hml0
  have hown : s.vm.findClass "java/lang/Integer" = some m.cls := findClass_of_methodNamed Bd.named
  have hnm := (name_of_methodNamed Bd.named Bd.method).1
  have X0 : Stand p l e ({ frames := 0, cells := 0, slots := 0, locals := 0 } : Room) s m #[(.ref a1)] below meth c s₁ [] 0 0 := Stand.of_body Bd
  have e0 : s₁.heap = h0 := by rw [← hh, Bd.state]; rfl
  have N0 := Fr.nil n0
  have ef : entryFrame m #[(.ref a1)] 1 = mkF m 0 #[.val (.ref a1)] [] := by first | (simp [entryFrame, mkF, argsToLocals, Value.category, maxLocals]; done) | rfl
  show own_End p e below _ (s₁.setTop (entryFrame m #[(.ref a1)] 1))
  refine own_by (fun _ k => castTop ef k) ?_
  show own_End p e below _ (s₁.setTop (mkF m 0 #[.val (.ref a1)] []))
  refine own_by (fun _ k => XS.aloadN X0.here hx rfl (hb hby own_d_jdk_33_method_27_0) rfl rfl k) ?_
  show own_End p e below _ (s₁.setTop (mkF m 1 #[.val (.ref a1)] [(.ref a1)]))
  obtain ⟨T27, X27, e27, st27⟩ := getF X0 hx hZ hown (host := "") (Or.inl (hw _ (List.mem_of_getElem? (i := 69) rfl))) Via.refl e0 F_k (g := (mkF m 1 #[.val (.ref a1)] [(.ref a1)])) rfl rfl (hb hby own_d_jdk_33_method_27_1)
  refine own_by st27 ?_
  show own_End p e below _ (T27.setTop (mkF m 4 #[.val (.ref a1)] [(.int k)]))
  obtain ⟨fs, hr, hrun, hended, hW, hsame⟩ := X27.leave (v := (some (.int k))) (fun h => by rw [Bd.returns] at h; cases h)
  refine ⟨_, _, retOut X27 hx Bd.returns rfl (Or.inl ⟨rfl, Or.inl rfl, _, rfl⟩) (hb hby own_d_jdk_33_method_27_4) hr, hrun, hended, _, _, rfl, ?_, ⟨_, rfl⟩, hW, hsame.mono (by decide) (by decide)⟩
  exact ⟨rfl, N0, e27⟩
set_option maxRecDepth 65536 in
set_option maxHeartbeats 40000000 in
theorem own_rnn (l : Launch) (Z : State) (a0 : Array Value) (hw : ∀ d ∈ tables_1, d.before a0 Z = true) (ws : List Jvm.Cond) (a1 a2 : Addr) (h0 : Heap) (n0 : Nat) :
    own_Met l Z (⟨"java/util/Objects", "requireNonNull", "(Ljava/lang/Object;Ljava/lang/String;)Ljava/lang/Object;"⟩ : MethodName) jdk_31_method_11_code 2 (some (.object "java/lang/Object")) ws ({ frames := 0, cells := 0, slots := 0, locals := 0 } : Room) #[(.ref a1), (.ref a2)] h0 (fun v h L => v = some (.ref a1) ∧ Fr n0 L ∧ h = h0) := by
  refine MetFree.of_bodySF (plainFor_of_name own_pn5) hisR ?_
  intro p e s m args below meth c s₁ Bd hml0 hP hK
  obtain ⟨rfl, hZ, hh⟩ := hP
  have hx := Bd.exec
  have hby := Bd.bytes
  have hml : c.maxLocals = 2 := hml0
  have hown : s.vm.findClass "java/util/Objects" = some m.cls := findClass_of_methodNamed Bd.named
  have hnm := (name_of_methodNamed Bd.named Bd.method).1
  have X0 : Stand p l e ({ frames := 0, cells := 0, slots := 0, locals := 0 } : Room) s m #[(.ref a1), (.ref a2)] below meth c s₁ [] 0 0 := Stand.of_body Bd
  have e0 : s₁.heap = h0 := by rw [← hh, Bd.state]; rfl
  have N0 := Fr.nil n0
  have ef : entryFrame m #[(.ref a1), (.ref a2)] 2 = mkF m 0 #[.val (.ref a1), .val (.ref a2)] [] := by first | (simp [entryFrame, mkF, argsToLocals, Value.category, maxLocals]; done) | rfl
  show own_End p e below _ (s₁.setTop (entryFrame m #[(.ref a1), (.ref a2)] 2))
  refine own_by (fun _ k => castTop ef k) ?_
  show own_End p e below _ (s₁.setTop (mkF m 0 #[.val (.ref a1), .val (.ref a2)] []))
  refine own_by (fun _ k => XS.aloadN X0.here hx rfl (hb hby own_d_jdk_31_method_11_0) rfl rfl k) ?_
  show own_End p e below _ (s₁.setTop (mkF m 1 #[.val (.ref a1), .val (.ref a2)] [(.ref a1)]))
  refine own_by (fun _ k => XS.ifnonnullYes X0.here hx rfl (pc0 := 1) (pc' := 13) rfl (hb hby own_d_jdk_31_method_11_1) rfl (by decide) (by decide) k) ?_
  show own_End p e below _ (s₁.setTop (mkF m 13 #[.val (.ref a1), .val (.ref a2)] []))
  refine own_by (fun _ k => XS.aloadN X0.here hx rfl (hb hby own_d_jdk_31_method_11_13) rfl rfl k) ?_
  show own_End p e below _ (s₁.setTop (mkF m 14 #[.val (.ref a1), .val (.ref a2)] [(.ref a1)]))
  obtain ⟨fs, hr, hrun, hended, hW, hsame⟩ := X0.leave (v := (some (.ref a1))) (fun h => by rw [Bd.returns] at h; cases h)
  refine ⟨_, _, retOut X0 hx Bd.returns rfl (Or.inr (Or.inr (Or.inr (Or.inr ⟨rfl, rfl, rfl⟩)))) (hb hby own_d_jdk_31_method_11_14) hr, hrun, hended, _, _, rfl, ?_, ⟨_, rfl⟩, hW, hsame.mono (by decide) (by decide)⟩
  exact ⟨rfl, N0, e0⟩
set_option maxRecDepth 65536 in
set_option maxHeartbeats 40000000 in
theorem own_rneR (l : Launch) (Z : State) (a0 : Array Value) (hw : ∀ d ∈ tables_1, d.before a0 Z = true) (ws : List Jvm.Cond) (a1 d1 : Addr) (h0 : Heap) (n0 : Nat) :
    own_MetW l Z (⟨"java/util/Objects", "requireNonNullElse", "(Ljava/lang/Object;Ljava/lang/Object;)Ljava/lang/Object;"⟩ : MethodName) jdk_31_method_14_code 2 (some (.object "java/lang/Object")) ws ({ frames := 1, cells := 2, slots := 44, locals := 13 } : Room) #[(.ref a1), (.ref d1)] h0 (fun v h L => ∃ x : Addr, v = some (.ref x) ∧ ((Value.ref a1 = .null ∧ x = d1) ∨ Value.ref a1 = .ref x) ∧ Fr n0 L ∧ Ext h0 h) := by
  refine MetFree.of_bodySF (plainFor_of_name own_pn5) hisR ?_
  intro p e s m args below meth c s₁ Bd hml0 hP hK
  obtain ⟨rfl, hZ, hh⟩ := hP
  have hx := Bd.exec
  have hby := Bd.bytes
  have hml : c.maxLocals = 2 := hml0
  have hown : s.vm.findClass "java/util/Objects" = some m.cls := findClass_of_methodNamed Bd.named
  have hnm := (name_of_methodNamed Bd.named Bd.method).1
  have X0 : Stand p l e ({ frames := 1, cells := 2, slots := 44, locals := 13 } : Room) s m #[(.ref a1), (.ref d1)] below meth c s₁ [] 0 0 := Stand.of_body Bd
  have e0 : s₁.heap = h0 := by rw [← hh, Bd.state]; rfl
  have N0 := Fr.nil n0
  have ef : entryFrame m #[(.ref a1), (.ref d1)] 2 = mkF m 0 #[.val (.ref a1), .val (.ref d1)] [] := by first | (simp [entryFrame, mkF, argsToLocals, Value.category, maxLocals]; done) | rfl
  show own_End p e below _ (s₁.setTop (entryFrame m #[(.ref a1), (.ref d1)] 2))
  refine own_by (fun _ k => castTop ef k) ?_
  show own_End p e below _ (s₁.setTop (mkF m 0 #[.val (.ref a1), .val (.ref d1)] []))
  refine own_by (fun _ k => XS.aloadN X0.here hx rfl (hb hby own_d_jdk_31_method_14_0) rfl rfl k) ?_
  show own_End p e below _ (s₁.setTop (mkF m 1 #[.val (.ref a1), .val (.ref d1)] [(.ref a1)]))
  refine own_by (fun _ k => XS.ifnullNo X0.here hx rfl (hb hby own_d_jdk_31_method_14_1) rfl k) ?_
  show own_End p e below _ (s₁.setTop (mkF m 4 #[.val (.ref a1), .val (.ref d1)] []))
  refine own_by (fun _ k => XS.aloadN X0.here hx rfl (hb hby own_d_jdk_31_method_14_4) rfl rfl k) ?_
  show own_End p e below _ (s₁.setTop (mkF m 5 #[.val (.ref a1), .val (.ref d1)] [(.ref a1)]))
  refine own_by (fun _ k => XS.goto X0.here hx rfl (pc0 := 5) (pc' := 14) rfl (hb hby own_d_jdk_31_method_14_5) (by decide) (by decide) k) ?_
  show own_End p e below _ (s₁.setTop (mkF m 14 #[.val (.ref a1), .val (.ref d1)] [(.ref a1)]))
  obtain ⟨fs, hr, hrun, hended, hW, hsame⟩ := X0.leave (v := (some (.ref a1))) (fun h => by rw [Bd.returns] at h; cases h)
  refine ⟨_, _, retOut X0 hx Bd.returns rfl (Or.inr (Or.inr (Or.inr (Or.inr ⟨rfl, rfl, rfl⟩)))) (hb hby own_d_jdk_31_method_14_14) hr, hrun, hended, _, _, rfl, ?_, own_rw (ReturnedEndW.of_narrow ⟨_, rfl⟩ hW hsame) (by decide) (by decide)⟩
  have hfin : (s₁.setFrames fs).heap = h0 := e0
  exact ⟨_, rfl, Or.inr rfl, N0, by rw [hfin]; exact ⟨Nat.le_refl _, fun _ _ q => q⟩⟩
set_option maxRecDepth 65536 in
set_option maxHeartbeats 40000000 in
theorem own_rneN (l : Launch) (Z : State) (a0 : Array Value) (hw : ∀ d ∈ tables_1, d.before a0 Z = true) (ws : List Jvm.Cond) (d1 : Addr) (h0 : Heap) (n0 : Nat) :
    own_MetW l Z (⟨"java/util/Objects", "requireNonNullElse", "(Ljava/lang/Object;Ljava/lang/Object;)Ljava/lang/Object;"⟩ : MethodName) jdk_31_method_14_code 2 (some (.object "java/lang/Object")) ws ({ frames := 1, cells := 2, slots := 44, locals := 13 } : Room) #[.null, (.ref d1)] h0 (fun v h L => ∃ x : Addr, v = some (.ref x) ∧ ((Value.null = .null ∧ x = d1) ∨ Value.null = .ref x) ∧ Fr n0 L ∧ Ext h0 h) := by
  refine MetFree.of_bodySF (plainFor_of_name own_pn5) hisR ?_
  intro p e s m args below meth c s₁ Bd hml0 hP hK
  obtain ⟨rfl, hZ, hh⟩ := hP
  have hx := Bd.exec
  have hby := Bd.bytes
  have hml : c.maxLocals = 2 := hml0
  have hown : s.vm.findClass "java/util/Objects" = some m.cls := findClass_of_methodNamed Bd.named
  have hnm := (name_of_methodNamed Bd.named Bd.method).1
  have X0 : Stand p l e ({ frames := 1, cells := 2, slots := 44, locals := 13 } : Room) s m #[.null, (.ref d1)] below meth c s₁ [] 0 0 := Stand.of_body Bd
  have e0 : s₁.heap = h0 := by rw [← hh, Bd.state]; rfl
  have N0 := Fr.nil n0
  have ef : entryFrame m #[.null, (.ref d1)] 2 = mkF m 0 #[.val .null, .val (.ref d1)] [] := by first | (simp [entryFrame, mkF, argsToLocals, Value.category, maxLocals]; done) | rfl
  show own_End p e below _ (s₁.setTop (entryFrame m #[.null, (.ref d1)] 2))
  refine own_by (fun _ k => castTop ef k) ?_
  show own_End p e below _ (s₁.setTop (mkF m 0 #[.val .null, .val (.ref d1)] []))
  refine own_by (fun _ k => XS.aloadN X0.here hx rfl (hb hby own_d_jdk_31_method_14_0) rfl rfl k) ?_
  show own_End p e below _ (s₁.setTop (mkF m 1 #[.val .null, .val (.ref d1)] [.null]))
  refine own_by (fun _ k => XS.ifnullYes X0.here hx rfl (pc0 := 1) (pc' := 8) rfl (hb hby own_d_jdk_31_method_14_1) rfl (by decide) (by decide) k) ?_
  show own_End p e below _ (s₁.setTop (mkF m 8 #[.val .null, .val (.ref d1)] []))
  refine own_by (fun _ k => XS.aloadN X0.here hx rfl (hb hby own_d_jdk_31_method_14_8) rfl rfl k) ?_
  show own_End p e below _ (s₁.setTop (mkF m 9 #[.val .null, .val (.ref d1)] [(.ref d1)]))
  have X28' : Stand p l e _ (s.setVm s.vm) m _ below meth c s₁ _ _ _ := X0
  obtain ⟨sa, T28, h28, kk28, X28, e28, E28, hS28, gk28, hZ28, hown28, st28⟩ := ldcS (n := 40) (text := "defaultObj") X28' hx hZ hown (hw _ (List.mem_of_getElem? (i := 75) rfl)) (own_strs hw) e0 ((State.WarmedH.refl s).since 0) (Nat.zero_le _) (g := (mkF m 9 #[.val .null, .val (.ref d1)] [(.ref d1)])) rfl (hb hby own_d_jdk_31_method_14_9) (by decide) (by decide) (by decide) (by decide)
  have Oe := E28
  refine own_by st28 ?_
  show own_End p e below _ (T28.setTop (mkF m 11 #[.val .null, .val (.ref d1)] [(.ref sa), (.ref d1)]))
  obtain ⟨_, _, ⟨T29, L29, k29, n29⟩, -, X29, ⟨Lc29, hQ29, l29, y29, z29⟩, st29⟩ := Jvm.LawKit.callS X28 hx (y := (⟨"java/util/Objects", "requireNonNull", "(Ljava/lang/Object;Ljava/lang/String;)Ljava/lang/Object;"⟩ : MethodName)) hown28 (mvT hZ28 (hw _ (List.mem_of_getElem? (i := 83) rfl))) (mvT hZ28 (hw _ (List.mem_of_getElem? (i := 84) rfl))) (mvT hZ28 (hw _ (List.mem_of_getElem? (i := 73) rfl))) (mvT hZ28 (hw _ (List.mem_of_getElem? (i := 85) rfl))) (by decide) (own_back (W := 0) (own_rnn l Z a0 hw [] d1 sa h28 n0) hZ28 (hw _ (List.mem_of_getElem? (i := 85) rfl)) (hw _ (List.mem_of_getElem? (i := 73) rfl)) (by decide) (by decide)) (g := (mkF m 11 #[.val .null, .val (.ref d1)] [(.ref sa), (.ref d1)])) rfl (by rw [hml]; rfl) (argsL := [(.ref d1), (.ref sa)]) (rest := []) (lenOf own_pd2 rfl) rfl (by show 2 * 0 + _ ≤ _; exact Nat.le_of_eq rfl) (hb hby own_d_jdk_31_method_14_11) (fun _ _ => ⟨rfl, e28, (by decide : 2 + 0 ≤ _), (by decide : 44 + 0 ≤ _)⟩)
  dsimp only [Pt.U, Pt.locs, Pt.cells, Pt.slots] at X29 l29 y29 z29 st29 hQ29
  subst l29 y29 z29
  obtain ⟨rfl, N29q, e29⟩ := hQ29
  have N29 := Fr.app N0 N29q
  refine own_by st29 ?_
  show own_End p e below _ (T29.setTop (mkF m 14 #[.val .null, .val (.ref d1)] [(.ref d1)]))
  obtain ⟨fs, hr, hrun, hended, hW⟩ := X29.leaveW (v := (some (.ref d1))) hS28 (by rw [e29]; exact gk28) (fun h => by rw [Bd.returns] at h; cases h)
  refine ⟨_, _, retOut X29 hx Bd.returns rfl (Or.inr (Or.inr (Or.inr (Or.inr ⟨rfl, rfl, rfl⟩)))) (hb hby own_d_jdk_31_method_14_14) hr, hrun, hended, _, _, rfl, ?_, own_rw hW (by decide) (by decide)⟩
  have hfin : (T29.setFrames fs).heap = h28 := e29
  exact ⟨_, rfl, Or.inl ⟨rfl, rfl⟩, N29, by rw [hfin]; exact Oe⟩
theorem own_rne (l : Launch) (Z : State) (a0 : Array Value) (hw : ∀ d ∈ tables_1, d.before a0 Z = true) (ws : List Jvm.Cond) (v1 : Value) (d1 : Addr) (h0 : Heap) (n0 : Nat) (hv : own_rf v1) :
    own_MetW l Z (⟨"java/util/Objects", "requireNonNullElse", "(Ljava/lang/Object;Ljava/lang/Object;)Ljava/lang/Object;"⟩ : MethodName) jdk_31_method_14_code 2 (some (.object "java/lang/Object")) ws ({ frames := 1, cells := 2, slots := 44, locals := 13 } : Room) #[v1, (.ref d1)] h0 (fun v h L => ∃ x : Addr, v = some (.ref x) ∧ ((v1 = .null ∧ x = d1) ∨ v1 = .ref x) ∧ Fr n0 L ∧ Ext h0 h) := by
  rcases hv with rfl | ⟨a1, rfl⟩
  · exact own_rneN l Z a0 hw ws d1 h0 n0
  · exact own_rneR l Z a0 hw ws a1 d1 h0 n0
set_option maxRecDepth 65536 in
set_option maxHeartbeats 40000000 in
theorem own_appN (l : Launch) (Z : State) (a0 : Array Value) (hw : ∀ d ∈ tables_1, d.before a0 Z = true) (ws : List Jvm.Cond) (c1 ba : Addr) (v1 v2 v3 v4 : Value) (b1 b2 b3 b4 g1 g2 g3 g4 k1 k2 k3 k4 : Int32) (h0 : Heap) (n0 : Nat) (Z0 : n0 ≤ Z.heap.size) (O : Ext Z.heap h0) (hC : own_IC Z) (S_D : Sta Z Z.heap "com/example/hongdae/hongdae/sale/WaitingRoom" "DEFAULT" "Lcom/example/hongdae/hongdae/sale/WaitingRoom;" (.ref ba)) (base : own_WRf Z h0 ba k1 k2 k3 k4) (ch : own_CHf Z h0 c1 v1 v2 v3 v4) (iv1 : own_IV Z h0 b1 g1 v1) (iv2 : own_IV Z h0 b2 g2 v2) (iv3 : own_IV Z h0 b3 g3 v3) (iv4 : own_IV Z h0 b4 g4 v4) :
    own_MetW l Z (⟨"com/example/hongdae/hongdae/sale/WaitingRoom$Change", "applyTo", "(Lcom/example/hongdae/hongdae/sale/WaitingRoom;)Lcom/example/hongdae/hongdae/sale/WaitingRoom;"⟩ : MethodName) prog_18_method_2_code 3 (some (.object "com/example/hongdae/hongdae/sale/WaitingRoom")) ws ({ frames := 4, cells := 13, slots := 184, locals := 56 } : Room) #[(.ref c1), .null] h0 (fun v h L => ∃ x : Addr, v = some (.ref x) ∧ Fr n0 L ∧ own_WRf Z h x (own_sel b1 g1 k1) (own_sel b2 g2 k2) (own_sel b3 g3 k3) (own_sel b4 g4 k4)) := by
  refine MetFree.of_bodySF (plainFor_of_name own_pn4) hisR ?_
  intro p e s m args below meth c s₁ Bd hml0 hP hK
  obtain ⟨rfl, hZ, hh⟩ := hP
  have hx := Bd.exec
  have hby := Bd.bytes
  have hml : c.maxLocals = 3 := hml0
  have hown : s.vm.findClass "com/example/hongdae/hongdae/sale/WaitingRoom$Change" = some m.cls := findClass_of_methodNamed Bd.named
  have hnm := (name_of_methodNamed Bd.named Bd.method).1
  have X0 : Stand p l e ({ frames := 4, cells := 13, slots := 184, locals := 56 } : Room) s m #[(.ref c1), .null] below meth c s₁ [] 0 0 := Stand.of_body Bd
  have e0 : s₁.heap = h0 := by rw [← hh, Bd.state]; rfl
  have N0 := Fr.nil n0
  have ef : entryFrame m #[(.ref c1), .null] 3 = mkF m 0 #[.val (.ref c1), .val .null, .unset] [] := by first | (simp [entryFrame, mkF, argsToLocals, Value.category, maxLocals]; done) | rfl
  show own_End p e below _ (s₁.setTop (entryFrame m #[(.ref c1), .null] 3))
  refine own_by (fun _ k => castTop ef k) ?_
  show own_End p e below _ (s₁.setTop (mkF m 0 #[.val (.ref c1), .val .null, .unset] []))
  refine own_by (fun _ k => XS.aloadN X0.here hx rfl (hb hby own_d_prog_18_method_2_0) rfl rfl k) ?_
  show own_End p e below _ (s₁.setTop (mkF m 1 #[.val (.ref c1), .val .null, .unset] [.null]))
  refine own_by (fun _ k => XS.ifnonnullNo X0.here hx rfl (hb hby own_d_prog_18_method_2_1) rfl k) ?_
  show own_End p e below _ (s₁.setTop (mkF m 4 #[.val (.ref c1), .val .null, .unset] []))
  obtain ⟨T30, X30, e30, st30⟩ := getS2 X0 hx hZ hown (host := "") (Or.inl (hw _ (List.mem_of_getElem? (i := 116) rfl))) Via.refl e0 (S_D.ext O) (g := (mkF m 4 #[.val (.ref c1), .val .null, .unset] [])) rfl (hb hby own_d_prog_18_method_2_4)
  refine own_by st30 ?_
  show own_End p e below _ (T30.setTop (mkF m 7 #[.val (.ref c1), .val .null, .unset] [(.ref ba)]))
  refine own_by (fun _ k => XS.goto X30.here hx rfl (pc0 := 7) (pc' := 11) rfl (hb hby own_d_prog_18_method_2_7) (by decide) (by decide) k) ?_
  show own_End p e below _ (T30.setTop (mkF m 11 #[.val (.ref c1), .val .null, .unset] [(.ref ba)]))
  refine own_by (fun _ k => XS.astoreN X30.here hx rfl (hb hby own_d_prog_18_method_2_11) rfl rfl (l' := #[.val (.ref c1), .val .null, .val (.ref ba)]) rfl k) ?_
  show own_End p e below _ (T30.setTop (mkF m 12 #[.val (.ref c1), .val .null, .val (.ref ba)] []))
  obtain ⟨T31, h31, X31, e31, E31, A31, D31, -, st31⟩ := newO X30 hx hZ hown (hw _ (List.mem_of_getElem? (i := 49) rfl)) (hw _ (List.mem_of_getElem? (i := 1) rfl)) (hw _ (List.mem_of_getElem? (i := 2) rfl)) e30 (g := (mkF m 12 #[.val (.ref c1), .val .null, .val (.ref ba)] [])) rfl (hb hby own_d_prog_18_method_2_12) (by decide) (by decide)
  obtain ⟨b31, g31⟩ : ∃ z, z = h0.size := ⟨_, rfl⟩
  rw [← g31] at A31 D31 st31
  have g_b31 : Z.heap.size ≤ b31 := Nat.le_trans O.1 (Nat.le_of_eq g31.symm)
  have F31_admitPerTick : Fld Z h31 b31 "com/example/hongdae/hongdae/sale/WaitingRoom" "admitPerTick" "I" (.int (0 : Int32)) := D31 (Or.inr (hw _ (List.mem_of_getElem? (i := 15) rfl))) (ty := .int) (by decide)
  have F31_tickSeconds : Fld Z h31 b31 "com/example/hongdae/hongdae/sale/WaitingRoom" "tickSeconds" "I" (.int (0 : Int32)) := D31 (Or.inr (hw _ (List.mem_of_getElem? (i := 17) rfl))) (ty := .int) (by decide)
  have F31_maxActive : Fld Z h31 b31 "com/example/hongdae/hongdae/sale/WaitingRoom" "maxActive" "I" (.int (0 : Int32)) := D31 (Or.inr (hw _ (List.mem_of_getElem? (i := 19) rfl))) (ty := .int) (by decide)
  have F31_activeSeconds : Fld Z h31 b31 "com/example/hongdae/hongdae/sale/WaitingRoom" "activeSeconds" "I" (.int (0 : Int32)) := D31 (Or.inr (hw _ (List.mem_of_getElem? (i := 21) rfl))) (ty := .int) (by decide)
  refine own_by st31 ?_
  have O31 := own_ext O E31
  have base_31 := base.ext E31
  have ch_31 := ch.ext E31
  have iv1_31 := iv1.ext E31
  have iv2_31 := iv2.ext E31
  have iv3_31 := iv3.ext E31
  have iv4_31 := iv4.ext E31
  show own_End p e below _ (T31.setTop (mkF m 15 #[.val (.ref c1), .val .null, .val (.ref ba)] [(.ref b31)]))
  refine own_by (fun _ k => XS.dup X31.here hx rfl (hb hby own_d_prog_18_method_2_15) rfl rfl k) ?_
  show own_End p e below _ (T31.setTop (mkF m 16 #[.val (.ref c1), .val .null, .val (.ref ba)] [(.ref b31), (.ref b31)]))
  refine own_by (fun _ k => XS.aloadN X31.here hx rfl (hb hby own_d_prog_18_method_2_16) rfl rfl k) ?_
  show own_End p e below _ (T31.setTop (mkF m 17 #[.val (.ref c1), .val .null, .val (.ref ba)] [(.ref c1), (.ref b31), (.ref b31)]))
  obtain ⟨T32, X32, e32, st32⟩ := getF X31 hx hZ hown (host := "") (Or.inl (hw _ (List.mem_of_getElem? (i := 36) rfl))) Via.refl e31 ch_31.2.1 (g := (mkF m 17 #[.val (.ref c1), .val .null, .val (.ref ba)] [(.ref c1), (.ref b31), (.ref b31)])) rfl rfl (hb hby own_d_prog_18_method_2_17)
  refine own_by st32 ?_
  show own_End p e below _ (T32.setTop (mkF m 20 #[.val (.ref c1), .val .null, .val (.ref ba)] [v1, (.ref b31), (.ref b31)]))
  refine own_by (fun _ k => XS.aloadN X32.here hx rfl (hb hby own_d_prog_18_method_2_20) rfl rfl k) ?_
  show own_End p e below _ (T32.setTop (mkF m 21 #[.val (.ref c1), .val .null, .val (.ref ba)] [(.ref ba), v1, (.ref b31), (.ref b31)]))
  obtain ⟨cq33, kq33, q33a, q33b, q33c⟩ := isOf hZ e32 base_31.1
  obtain ⟨_, _, ⟨T33, L33, k33, n33⟩, -, X33, ⟨Lc33, hQ33, l33, y33, z33⟩, st33⟩ := X32.virtualBack hx (y := (⟨"com/example/hongdae/hongdae/sale/WaitingRoom", "admitPerTick", "()I"⟩ : MethodName)) (z := (⟨"com/example/hongdae/hongdae/sale/WaitingRoom", "admitPerTick", "()I"⟩ : MethodName)) hown (mvT hZ (hw _ (List.mem_of_getElem? (i := 50) rfl))) (mvT hZ (hw _ (List.mem_of_getElem? (i := 51) rfl))) (notFace_of_selects (args := #[]) (mvT hZ (hw _ (List.mem_of_getElem? (i := 53) rfl)))) (mvT hZ (hw _ (List.mem_of_getElem? (i := 53) rfl))) (mvT hZ (hw _ (List.mem_of_getElem? (i := 52) rfl))) (by decide) (own_back (W := 3) (own_get1 l Z a0 hw [] ba k1 h31 n0 base_31.2.1) hZ (hw _ (List.mem_of_getElem? (i := 54) rfl)) (hw _ (List.mem_of_getElem? (i := 2) rfl)) (by decide) (by decide)) q33a q33c (g := (mkF m 21 #[.val (.ref c1), .val .null, .val (.ref ba)] [(.ref ba), v1, (.ref b31), (.ref b31)])) rfl (by rw [hml]; rfl) (Steps.refl _) (argsL := []) (rest := [v1, (.ref b31), (.ref b31)]) (lenOf own_pd3 rfl) rfl (by show 2 * 0 + (v1.category + _) ≤ _; rw [iv1.rf.cat]; exact Nat.le_of_eq rfl) (hb hby own_d_prog_18_method_2_21) (fun _ _ => ⟨rfl, e32, (by decide : 1 + 0 ≤ _), (by decide : 4 + 0 ≤ _)⟩)
  dsimp only [Pt.U, Pt.locs, Pt.cells, Pt.slots] at X33 l33 y33 z33 st33 hQ33
  subst l33 y33 z33
  obtain ⟨rfl, N33q, e33⟩ := hQ33
  have N33 := Fr.app N0 N33q
  refine own_by (fun _ k => st33.trans k) ?_
  show own_End p e below _ (T33.setTop (mkF m 24 #[.val (.ref c1), .val .null, .val (.ref ba)] [(.int k1), v1, (.ref b31), (.ref b31)]))
  obtain ⟨_, _, ⟨T34, L34, k34, n34⟩, -, X34, ⟨Lc34, hQ34, l34, y34, z34⟩, st34⟩ := Jvm.LawKit.callS X33 hx (y := (⟨"java/lang/Integer", "valueOf", "(I)Ljava/lang/Integer;"⟩ : MethodName)) hown (mvT hZ (hw _ (List.mem_of_getElem? (i := 55) rfl))) (mvT hZ (hw _ (List.mem_of_getElem? (i := 23) rfl))) (mvT hZ (hw _ (List.mem_of_getElem? (i := 24) rfl))) (mvT hZ (hw _ (List.mem_of_getElem? (i := 25) rfl))) (by decide) (own_back (W := 3) (own_vof l Z a0 hw [] k1 h31 n0 Z0 O31 hC) hZ (hw _ (List.mem_of_getElem? (i := 25) rfl)) (hw _ (List.mem_of_getElem? (i := 24) rfl)) (by decide) (by decide)) (g := (mkF m 24 #[.val (.ref c1), .val .null, .val (.ref ba)] [(.int k1), v1, (.ref b31), (.ref b31)])) rfl (by rw [hml]; rfl) (argsL := [(.int k1)]) (rest := [v1, (.ref b31), (.ref b31)]) (lenOf own_pd4 rfl) rfl (by show 2 * 0 + (v1.category + _) ≤ _; rw [iv1.rf.cat]; exact Nat.le_of_eq rfl) (hb hby own_d_prog_18_method_2_24) (fun _ _ => ⟨rfl, e33, (by decide : 1 + 1 ≤ _), (by decide : 4 + 1 ≤ _)⟩)
  dsimp only [Pt.U, Pt.locs, Pt.cells, Pt.slots] at X34 l34 y34 z34 st34 hQ34
  subst l34 y34 z34
  obtain ⟨d1, rfl, N34q, Ob34, Ee34, Ff34⟩ := hQ34
  have N34 := Fr.app N33 N34q
  refine own_by st34 ?_
  have O34 := own_ext O31 Ob34
  have base_34 := base_31.ext Ob34
  have ch_34 := ch_31.ext Ob34
  have iv1_34 := iv1_31.ext Ob34
  have iv2_34 := iv2_31.ext Ob34
  have iv3_34 := iv3_31.ext Ob34
  have iv4_34 := iv4_31.ext Ob34
  have nx_34 := own_ext E31 Ob34
  have nE_34 := A31.ext Ob34
  have n_admitPerTick_34 := F31_admitPerTick.ext Ob34
  have n_tickSeconds_34 := F31_tickSeconds.ext Ob34
  have n_maxActive_34 := F31_maxActive.ext Ob34
  have n_activeSeconds_34 := F31_activeSeconds.ext Ob34
  show own_End p e below _ (T34.setTop (mkF m 27 #[.val (.ref c1), .val .null, .val (.ref ba)] [(.ref d1), v1, (.ref b31), (.ref b31)]))
  obtain ⟨_, _, ⟨T35, L35, k35, n35⟩, -, X35, hS35, gr35, ⟨Lc35, hQ35, l35, y35, z35⟩, st35⟩ := callSS X34 hx (y := (⟨"java/util/Objects", "requireNonNullElse", "(Ljava/lang/Object;Ljava/lang/Object;)Ljava/lang/Object;"⟩ : MethodName)) hown (mvT hZ (hw _ (List.mem_of_getElem? (i := 71) rfl))) (mvT hZ (hw _ (List.mem_of_getElem? (i := 72) rfl))) (mvT hZ (hw _ (List.mem_of_getElem? (i := 73) rfl))) (mvT hZ (hw _ (List.mem_of_getElem? (i := 74) rfl))) (by decide) (own_backS (W := 2) (own_rne l Z a0 hw [] v1 d1 T34.heap n0 iv1_34.rf) hZ (hw _ (List.mem_of_getElem? (i := 74) rfl)) (hw _ (List.mem_of_getElem? (i := 73) rfl)) (by decide) (by decide)) (g := (mkF m 27 #[.val (.ref c1), .val .null, .val (.ref ba)] [(.ref d1), v1, (.ref b31), (.ref b31)])) rfl (by rw [hml]; rfl) (argsL := [v1, (.ref d1)]) (rest := [(.ref b31), (.ref b31)]) (lenOf own_pd5 rfl) rfl (by show 2 * 0 + _ ≤ _; exact Nat.le_of_eq rfl) (hb hby own_d_prog_18_method_2_27) (fun _ _ => ⟨rfl, rfl, (by decide : 2 + 2 ≤ _), (by decide : 5 + 44 ≤ _)⟩)
  dsimp only [Pt.U, Pt.locs, Pt.cells, Pt.slots] at X35 l35 y35 z35 st35 hQ35 hS35 gr35
  subst l35 y35 z35
  obtain ⟨x1, rfl, rs35, N35q, Ob35⟩ := hQ35
  have N35 := Fr.app N34 N35q
  have hZ35 : Z.Warmed39 (s.setVm T35.vm).vm := State.Warmed39.trans hZ hS35.1
  have hown35 : (s.setVm T35.vm).vm.findClass "com/example/hongdae/hongdae/sale/WaitingRoom$Change" = some m.cls := (hS35.1.alike.findClass _ _).trans hown
  refine own_by (fun _ k => st35.trans k) ?_
  have O35 := own_ext O34 Ob35
  have base_35 := base_34.ext Ob35
  have ch_35 := ch_34.ext Ob35
  have iv1_35 := iv1_34.ext Ob35
  have iv2_35 := iv2_34.ext Ob35
  have iv3_35 := iv3_34.ext Ob35
  have iv4_35 := iv4_34.ext Ob35
  have nx_35 := own_ext nx_34 Ob35
  have nE_35 := nE_34.ext Ob35
  have n_admitPerTick_35 := n_admitPerTick_34.ext Ob35
  have n_tickSeconds_35 := n_tickSeconds_34.ext Ob35
  have n_maxActive_35 := n_maxActive_34.ext Ob35
  have n_activeSeconds_35 := n_activeSeconds_34.ext Ob35
  have Ed1_35 := Ee34.ext Ob35
  have Fd1_35 := Ff34.ext Ob35
  obtain ⟨Ex35, Fx35⟩ := own_pick iv1_35 rs35 Ed1_35 Fd1_35
  show own_End p e below _ (T35.setTop (mkF m 30 #[.val (.ref c1), .val .null, .val (.ref ba)] [(.ref x1), (.ref b31), (.ref b31)]))
  obtain ⟨T36, X36, e36, st36⟩ := castY X35 hx hZ35 hown35 (hw _ (List.mem_of_getElem? (i := 86) rfl)) rfl (Ins.self Ex35) (g := (mkF m 30 #[.val (.ref c1), .val .null, .val (.ref ba)] [(.ref x1), (.ref b31), (.ref b31)])) rfl rfl (hb hby own_d_prog_18_method_2_30)
  refine own_by st36 ?_
  show own_End p e below _ (T36.setTop (mkF m 33 #[.val (.ref c1), .val .null, .val (.ref ba)] [(.ref x1), (.ref b31), (.ref b31)]))
  obtain ⟨cq37, kq37, q37a, q37b, q37c⟩ := isOf hZ35 e36 Ex35
  obtain ⟨_, _, ⟨T37, L37, k37, n37⟩, -, X37, ⟨Lc37, hQ37, l37, y37, z37⟩, st37⟩ := X36.virtualBack hx (y := (⟨"java/lang/Integer", "intValue", "()I"⟩ : MethodName)) (z := (⟨"java/lang/Integer", "intValue", "()I"⟩ : MethodName)) hown35 (mvT hZ35 (hw _ (List.mem_of_getElem? (i := 87) rfl))) (mvT hZ35 (hw _ (List.mem_of_getElem? (i := 88) rfl))) (notFace_of_selects (args := #[]) (mvT hZ35 (hw _ (List.mem_of_getElem? (i := 90) rfl)))) (mvT hZ35 (hw _ (List.mem_of_getElem? (i := 90) rfl))) (mvT hZ35 (hw _ (List.mem_of_getElem? (i := 89) rfl))) (by decide) (own_back (W := 2) (own_ival l Z a0 hw [] x1 (own_sel b1 g1 k1) T35.heap n0 Fx35) hZ35 (hw _ (List.mem_of_getElem? (i := 91) rfl)) (hw _ (List.mem_of_getElem? (i := 24) rfl)) (by decide) (by decide)) q37a q37c (g := (mkF m 33 #[.val (.ref c1), .val .null, .val (.ref ba)] [(.ref x1), (.ref b31), (.ref b31)])) rfl (by rw [hml]; rfl) (Steps.refl _) (argsL := []) (rest := [(.ref b31), (.ref b31)]) (lenOf own_pd3 rfl) rfl (by show 2 * 0 + _ ≤ _; exact Nat.le_of_eq rfl) (hb hby own_d_prog_18_method_2_33) (fun _ _ => ⟨rfl, e36, (by decide : 4 + 0 ≤ _), (by decide : 49 + 0 ≤ _)⟩)
  dsimp only [Pt.U, Pt.locs, Pt.cells, Pt.slots] at X37 l37 y37 z37 st37 hQ37
  subst l37 y37 z37
  obtain ⟨rfl, N37q, e37⟩ := hQ37
  have N37 := Fr.app N35 N37q
  refine own_by (fun _ k => st37.trans k) ?_
  show own_End p e below _ (T37.setTop (mkF m 36 #[.val (.ref c1), .val .null, .val (.ref ba)] [(.int (own_sel b1 g1 k1)), (.ref b31), (.ref b31)]))
  refine own_by (fun _ k => XS.aloadN X37.here hx rfl (hb hby own_d_prog_18_method_2_36) rfl rfl k) ?_
  show own_End p e below _ (T37.setTop (mkF m 37 #[.val (.ref c1), .val .null, .val (.ref ba)] [(.ref c1), (.int (own_sel b1 g1 k1)), (.ref b31), (.ref b31)]))
  obtain ⟨T38, X38, e38, st38⟩ := getF X37 hx hZ35 hown35 (host := "") (Or.inl (hw _ (List.mem_of_getElem? (i := 38) rfl))) Via.refl e37 ch_35.2.2.1 (g := (mkF m 37 #[.val (.ref c1), .val .null, .val (.ref ba)] [(.ref c1), (.int (own_sel b1 g1 k1)), (.ref b31), (.ref b31)])) rfl rfl (hb hby own_d_prog_18_method_2_37)
  refine own_by st38 ?_
  show own_End p e below _ (T38.setTop (mkF m 40 #[.val (.ref c1), .val .null, .val (.ref ba)] [v2, (.int (own_sel b1 g1 k1)), (.ref b31), (.ref b31)]))
  refine own_by (fun _ k => XS.aloadN X38.here hx rfl (hb hby own_d_prog_18_method_2_40) rfl rfl k) ?_
  show own_End p e below _ (T38.setTop (mkF m 41 #[.val (.ref c1), .val .null, .val (.ref ba)] [(.ref ba), v2, (.int (own_sel b1 g1 k1)), (.ref b31), (.ref b31)]))
  obtain ⟨cq39, kq39, q39a, q39b, q39c⟩ := isOf hZ35 e38 base_35.1
  obtain ⟨_, _, ⟨T39, L39, k39, n39⟩, -, X39, ⟨Lc39, hQ39, l39, y39, z39⟩, st39⟩ := X38.virtualBack hx (y := (⟨"com/example/hongdae/hongdae/sale/WaitingRoom", "tickSeconds", "()I"⟩ : MethodName)) (z := (⟨"com/example/hongdae/hongdae/sale/WaitingRoom", "tickSeconds", "()I"⟩ : MethodName)) hown35 (mvT hZ35 (hw _ (List.mem_of_getElem? (i := 92) rfl))) (mvT hZ35 (hw _ (List.mem_of_getElem? (i := 93) rfl))) (notFace_of_selects (args := #[]) (mvT hZ35 (hw _ (List.mem_of_getElem? (i := 95) rfl)))) (mvT hZ35 (hw _ (List.mem_of_getElem? (i := 95) rfl))) (mvT hZ35 (hw _ (List.mem_of_getElem? (i := 94) rfl))) (by decide) (own_back (W := 4) (own_get2 l Z a0 hw [] ba k2 T35.heap n0 base_35.2.2.1) hZ35 (hw _ (List.mem_of_getElem? (i := 96) rfl)) (hw _ (List.mem_of_getElem? (i := 2) rfl)) (by decide) (by decide)) q39a q39c (g := (mkF m 41 #[.val (.ref c1), .val .null, .val (.ref ba)] [(.ref ba), v2, (.int (own_sel b1 g1 k1)), (.ref b31), (.ref b31)])) rfl (by rw [hml]; rfl) (Steps.refl _) (argsL := []) (rest := [v2, (.int (own_sel b1 g1 k1)), (.ref b31), (.ref b31)]) (lenOf own_pd3 rfl) rfl (by show 2 * 0 + (v2.category + _) ≤ _; rw [iv2.rf.cat]; exact Nat.le_of_eq rfl) (hb hby own_d_prog_18_method_2_41) (fun _ _ => ⟨rfl, e38, (by decide : 4 + 0 ≤ _), (by decide : 49 + 0 ≤ _)⟩)
  dsimp only [Pt.U, Pt.locs, Pt.cells, Pt.slots] at X39 l39 y39 z39 st39 hQ39
  subst l39 y39 z39
  obtain ⟨rfl, N39q, e39⟩ := hQ39
  have N39 := Fr.app N37 N39q
  refine own_by (fun _ k => st39.trans k) ?_
  show own_End p e below _ (T39.setTop (mkF m 44 #[.val (.ref c1), .val .null, .val (.ref ba)] [(.int k2), v2, (.int (own_sel b1 g1 k1)), (.ref b31), (.ref b31)]))
  obtain ⟨_, _, ⟨T40, L40, k40, n40⟩, -, X40, ⟨Lc40, hQ40, l40, y40, z40⟩, st40⟩ := Jvm.LawKit.callS X39 hx (y := (⟨"java/lang/Integer", "valueOf", "(I)Ljava/lang/Integer;"⟩ : MethodName)) hown35 (mvT hZ35 (hw _ (List.mem_of_getElem? (i := 55) rfl))) (mvT hZ35 (hw _ (List.mem_of_getElem? (i := 23) rfl))) (mvT hZ35 (hw _ (List.mem_of_getElem? (i := 24) rfl))) (mvT hZ35 (hw _ (List.mem_of_getElem? (i := 25) rfl))) (by decide) (own_back (W := 4) (own_vof l Z a0 hw [] k2 T35.heap n0 Z0 O35 hC) hZ35 (hw _ (List.mem_of_getElem? (i := 25) rfl)) (hw _ (List.mem_of_getElem? (i := 24) rfl)) (by decide) (by decide)) (g := (mkF m 44 #[.val (.ref c1), .val .null, .val (.ref ba)] [(.int k2), v2, (.int (own_sel b1 g1 k1)), (.ref b31), (.ref b31)])) rfl (by rw [hml]; rfl) (argsL := [(.int k2)]) (rest := [v2, (.int (own_sel b1 g1 k1)), (.ref b31), (.ref b31)]) (lenOf own_pd4 rfl) rfl (by show 2 * 0 + (v2.category + _) ≤ _; rw [iv2.rf.cat]; exact Nat.le_of_eq rfl) (hb hby own_d_prog_18_method_2_44) (fun _ _ => ⟨rfl, e39, (by decide : 4 + 1 ≤ _), (by decide : 49 + 1 ≤ _)⟩)
  dsimp only [Pt.U, Pt.locs, Pt.cells, Pt.slots] at X40 l40 y40 z40 st40 hQ40
  subst l40 y40 z40
  obtain ⟨d2, rfl, N40q, Ob40, Ee40, Ff40⟩ := hQ40
  have N40 := Fr.app N39 N40q
  refine own_by st40 ?_
  have O40 := own_ext O35 Ob40
  have base_40 := base_35.ext Ob40
  have ch_40 := ch_35.ext Ob40
  have iv1_40 := iv1_35.ext Ob40
  have iv2_40 := iv2_35.ext Ob40
  have iv3_40 := iv3_35.ext Ob40
  have iv4_40 := iv4_35.ext Ob40
  have nx_40 := own_ext nx_35 Ob40
  have nE_40 := nE_35.ext Ob40
  have n_admitPerTick_40 := n_admitPerTick_35.ext Ob40
  have n_tickSeconds_40 := n_tickSeconds_35.ext Ob40
  have n_maxActive_40 := n_maxActive_35.ext Ob40
  have n_activeSeconds_40 := n_activeSeconds_35.ext Ob40
  have Ed1_40 := Ed1_35.ext Ob40
  have Fd1_40 := Fd1_35.ext Ob40
  have Ex1_40 := Ex35.ext Ob40
  have Fx1_40 := Fx35.ext Ob40
  show own_End p e below _ (T40.setTop (mkF m 47 #[.val (.ref c1), .val .null, .val (.ref ba)] [(.ref d2), v2, (.int (own_sel b1 g1 k1)), (.ref b31), (.ref b31)]))
  obtain ⟨_, _, ⟨T41, L41, k41, n41⟩, -, X41, hS41, gr41, ⟨Lc41, hQ41, l41, y41, z41⟩, st41⟩ := callSS X40 hx (y := (⟨"java/util/Objects", "requireNonNullElse", "(Ljava/lang/Object;Ljava/lang/Object;)Ljava/lang/Object;"⟩ : MethodName)) hown35 (mvT hZ35 (hw _ (List.mem_of_getElem? (i := 71) rfl))) (mvT hZ35 (hw _ (List.mem_of_getElem? (i := 72) rfl))) (mvT hZ35 (hw _ (List.mem_of_getElem? (i := 73) rfl))) (mvT hZ35 (hw _ (List.mem_of_getElem? (i := 74) rfl))) (by decide) (own_backS (W := 3) (own_rne l Z a0 hw [] v2 d2 T40.heap n0 iv2_40.rf) hZ35 (hw _ (List.mem_of_getElem? (i := 74) rfl)) (hw _ (List.mem_of_getElem? (i := 73) rfl)) (by decide) (by decide)) (g := (mkF m 47 #[.val (.ref c1), .val .null, .val (.ref ba)] [(.ref d2), v2, (.int (own_sel b1 g1 k1)), (.ref b31), (.ref b31)])) rfl (by rw [hml]; rfl) (argsL := [v2, (.ref d2)]) (rest := [(.int (own_sel b1 g1 k1)), (.ref b31), (.ref b31)]) (lenOf own_pd5 rfl) rfl (by show 2 * 0 + _ ≤ _; exact Nat.le_of_eq rfl) (hb hby own_d_prog_18_method_2_47) (fun _ _ => ⟨rfl, rfl, (by decide : 5 + 2 ≤ _), (by decide : 50 + 44 ≤ _)⟩)
  dsimp only [Pt.U, Pt.locs, Pt.cells, Pt.slots] at X41 l41 y41 z41 st41 hQ41 hS41 gr41
  subst l41 y41 z41
  obtain ⟨x2, rfl, rs41, N41q, Ob41⟩ := hQ41
  have N41 := Fr.app N40 N41q
  obtain ⟨X41, hS41, hZ41, hown41⟩ := rebS hS35 (show _ ≤ T40.heap.size from (Nat.le_trans (Nat.le_refl _) Ob40.1)) X41 hS41 gr41 hZ35 hown35
  refine own_by (fun _ k => st41.trans k) ?_
  have O41 := own_ext O40 Ob41
  have base_41 := base_40.ext Ob41
  have ch_41 := ch_40.ext Ob41
  have iv1_41 := iv1_40.ext Ob41
  have iv2_41 := iv2_40.ext Ob41
  have iv3_41 := iv3_40.ext Ob41
  have iv4_41 := iv4_40.ext Ob41
  have nx_41 := own_ext nx_40 Ob41
  have nE_41 := nE_40.ext Ob41
  have n_admitPerTick_41 := n_admitPerTick_40.ext Ob41
  have n_tickSeconds_41 := n_tickSeconds_40.ext Ob41
  have n_maxActive_41 := n_maxActive_40.ext Ob41
  have n_activeSeconds_41 := n_activeSeconds_40.ext Ob41
  have Ed1_41 := Ed1_40.ext Ob41
  have Fd1_41 := Fd1_40.ext Ob41
  have Ex1_41 := Ex1_40.ext Ob41
  have Fx1_41 := Fx1_40.ext Ob41
  have Ed2_41 := Ee40.ext Ob41
  have Fd2_41 := Ff40.ext Ob41
  obtain ⟨Ex41, Fx41⟩ := own_pick iv2_41 rs41 Ed2_41 Fd2_41
  show own_End p e below _ (T41.setTop (mkF m 50 #[.val (.ref c1), .val .null, .val (.ref ba)] [(.ref x2), (.int (own_sel b1 g1 k1)), (.ref b31), (.ref b31)]))
  obtain ⟨T42, X42, e42, st42⟩ := castY X41 hx hZ41 hown41 (hw _ (List.mem_of_getElem? (i := 86) rfl)) rfl (Ins.self Ex41) (g := (mkF m 50 #[.val (.ref c1), .val .null, .val (.ref ba)] [(.ref x2), (.int (own_sel b1 g1 k1)), (.ref b31), (.ref b31)])) rfl rfl (hb hby own_d_prog_18_method_2_50)
  refine own_by st42 ?_
  show own_End p e below _ (T42.setTop (mkF m 53 #[.val (.ref c1), .val .null, .val (.ref ba)] [(.ref x2), (.int (own_sel b1 g1 k1)), (.ref b31), (.ref b31)]))
  obtain ⟨cq43, kq43, q43a, q43b, q43c⟩ := isOf hZ41 e42 Ex41
  obtain ⟨_, _, ⟨T43, L43, k43, n43⟩, -, X43, ⟨Lc43, hQ43, l43, y43, z43⟩, st43⟩ := X42.virtualBack hx (y := (⟨"java/lang/Integer", "intValue", "()I"⟩ : MethodName)) (z := (⟨"java/lang/Integer", "intValue", "()I"⟩ : MethodName)) hown41 (mvT hZ41 (hw _ (List.mem_of_getElem? (i := 87) rfl))) (mvT hZ41 (hw _ (List.mem_of_getElem? (i := 88) rfl))) (notFace_of_selects (args := #[]) (mvT hZ41 (hw _ (List.mem_of_getElem? (i := 90) rfl)))) (mvT hZ41 (hw _ (List.mem_of_getElem? (i := 90) rfl))) (mvT hZ41 (hw _ (List.mem_of_getElem? (i := 89) rfl))) (by decide) (own_back (W := 3) (own_ival l Z a0 hw [] x2 (own_sel b2 g2 k2) T41.heap n0 Fx41) hZ41 (hw _ (List.mem_of_getElem? (i := 91) rfl)) (hw _ (List.mem_of_getElem? (i := 24) rfl)) (by decide) (by decide)) q43a q43c (g := (mkF m 53 #[.val (.ref c1), .val .null, .val (.ref ba)] [(.ref x2), (.int (own_sel b1 g1 k1)), (.ref b31), (.ref b31)])) rfl (by rw [hml]; rfl) (Steps.refl _) (argsL := []) (rest := [(.int (own_sel b1 g1 k1)), (.ref b31), (.ref b31)]) (lenOf own_pd3 rfl) rfl (by show 2 * 0 + _ ≤ _; exact Nat.le_of_eq rfl) (hb hby own_d_prog_18_method_2_53) (fun _ _ => ⟨rfl, e42, (by decide : 7 + 0 ≤ _), (by decide : 94 + 0 ≤ _)⟩)
  dsimp only [Pt.U, Pt.locs, Pt.cells, Pt.slots] at X43 l43 y43 z43 st43 hQ43
  subst l43 y43 z43
  obtain ⟨rfl, N43q, e43⟩ := hQ43
  have N43 := Fr.app N41 N43q
  refine own_by (fun _ k => st43.trans k) ?_
  show own_End p e below _ (T43.setTop (mkF m 56 #[.val (.ref c1), .val .null, .val (.ref ba)] [(.int (own_sel b2 g2 k2)), (.int (own_sel b1 g1 k1)), (.ref b31), (.ref b31)]))
  refine own_by (fun _ k => XS.aloadN X43.here hx rfl (hb hby own_d_prog_18_method_2_56) rfl rfl k) ?_
  show own_End p e below _ (T43.setTop (mkF m 57 #[.val (.ref c1), .val .null, .val (.ref ba)] [(.ref c1), (.int (own_sel b2 g2 k2)), (.int (own_sel b1 g1 k1)), (.ref b31), (.ref b31)]))
  obtain ⟨T44, X44, e44, st44⟩ := getF X43 hx hZ41 hown41 (host := "") (Or.inl (hw _ (List.mem_of_getElem? (i := 40) rfl))) Via.refl e43 ch_41.2.2.2.1 (g := (mkF m 57 #[.val (.ref c1), .val .null, .val (.ref ba)] [(.ref c1), (.int (own_sel b2 g2 k2)), (.int (own_sel b1 g1 k1)), (.ref b31), (.ref b31)])) rfl rfl (hb hby own_d_prog_18_method_2_57)
  refine own_by st44 ?_
  show own_End p e below _ (T44.setTop (mkF m 60 #[.val (.ref c1), .val .null, .val (.ref ba)] [v3, (.int (own_sel b2 g2 k2)), (.int (own_sel b1 g1 k1)), (.ref b31), (.ref b31)]))
  refine own_by (fun _ k => XS.aloadN X44.here hx rfl (hb hby own_d_prog_18_method_2_60) rfl rfl k) ?_
  show own_End p e below _ (T44.setTop (mkF m 61 #[.val (.ref c1), .val .null, .val (.ref ba)] [(.ref ba), v3, (.int (own_sel b2 g2 k2)), (.int (own_sel b1 g1 k1)), (.ref b31), (.ref b31)]))
  obtain ⟨cq45, kq45, q45a, q45b, q45c⟩ := isOf hZ41 e44 base_41.1
  obtain ⟨_, _, ⟨T45, L45, k45, n45⟩, -, X45, ⟨Lc45, hQ45, l45, y45, z45⟩, st45⟩ := X44.virtualBack hx (y := (⟨"com/example/hongdae/hongdae/sale/WaitingRoom", "maxActive", "()I"⟩ : MethodName)) (z := (⟨"com/example/hongdae/hongdae/sale/WaitingRoom", "maxActive", "()I"⟩ : MethodName)) hown41 (mvT hZ41 (hw _ (List.mem_of_getElem? (i := 97) rfl))) (mvT hZ41 (hw _ (List.mem_of_getElem? (i := 98) rfl))) (notFace_of_selects (args := #[]) (mvT hZ41 (hw _ (List.mem_of_getElem? (i := 100) rfl)))) (mvT hZ41 (hw _ (List.mem_of_getElem? (i := 100) rfl))) (mvT hZ41 (hw _ (List.mem_of_getElem? (i := 99) rfl))) (by decide) (own_back (W := 5) (own_get3 l Z a0 hw [] ba k3 T41.heap n0 base_41.2.2.2.1) hZ41 (hw _ (List.mem_of_getElem? (i := 101) rfl)) (hw _ (List.mem_of_getElem? (i := 2) rfl)) (by decide) (by decide)) q45a q45c (g := (mkF m 61 #[.val (.ref c1), .val .null, .val (.ref ba)] [(.ref ba), v3, (.int (own_sel b2 g2 k2)), (.int (own_sel b1 g1 k1)), (.ref b31), (.ref b31)])) rfl (by rw [hml]; rfl) (Steps.refl _) (argsL := []) (rest := [v3, (.int (own_sel b2 g2 k2)), (.int (own_sel b1 g1 k1)), (.ref b31), (.ref b31)]) (lenOf own_pd3 rfl) rfl (by show 2 * 0 + (v3.category + _) ≤ _; rw [iv3.rf.cat]; exact Nat.le_of_eq rfl) (hb hby own_d_prog_18_method_2_61) (fun _ _ => ⟨rfl, e44, (by decide : 7 + 0 ≤ _), (by decide : 94 + 0 ≤ _)⟩)
  dsimp only [Pt.U, Pt.locs, Pt.cells, Pt.slots] at X45 l45 y45 z45 st45 hQ45
  subst l45 y45 z45
  obtain ⟨rfl, N45q, e45⟩ := hQ45
  have N45 := Fr.app N43 N45q
  refine own_by (fun _ k => st45.trans k) ?_
  show own_End p e below _ (T45.setTop (mkF m 64 #[.val (.ref c1), .val .null, .val (.ref ba)] [(.int k3), v3, (.int (own_sel b2 g2 k2)), (.int (own_sel b1 g1 k1)), (.ref b31), (.ref b31)]))
  obtain ⟨_, _, ⟨T46, L46, k46, n46⟩, -, X46, ⟨Lc46, hQ46, l46, y46, z46⟩, st46⟩ := Jvm.LawKit.callS X45 hx (y := (⟨"java/lang/Integer", "valueOf", "(I)Ljava/lang/Integer;"⟩ : MethodName)) hown41 (mvT hZ41 (hw _ (List.mem_of_getElem? (i := 55) rfl))) (mvT hZ41 (hw _ (List.mem_of_getElem? (i := 23) rfl))) (mvT hZ41 (hw _ (List.mem_of_getElem? (i := 24) rfl))) (mvT hZ41 (hw _ (List.mem_of_getElem? (i := 25) rfl))) (by decide) (own_back (W := 5) (own_vof l Z a0 hw [] k3 T41.heap n0 Z0 O41 hC) hZ41 (hw _ (List.mem_of_getElem? (i := 25) rfl)) (hw _ (List.mem_of_getElem? (i := 24) rfl)) (by decide) (by decide)) (g := (mkF m 64 #[.val (.ref c1), .val .null, .val (.ref ba)] [(.int k3), v3, (.int (own_sel b2 g2 k2)), (.int (own_sel b1 g1 k1)), (.ref b31), (.ref b31)])) rfl (by rw [hml]; rfl) (argsL := [(.int k3)]) (rest := [v3, (.int (own_sel b2 g2 k2)), (.int (own_sel b1 g1 k1)), (.ref b31), (.ref b31)]) (lenOf own_pd4 rfl) rfl (by show 2 * 0 + (v3.category + _) ≤ _; rw [iv3.rf.cat]; exact Nat.le_of_eq rfl) (hb hby own_d_prog_18_method_2_64) (fun _ _ => ⟨rfl, e45, (by decide : 7 + 1 ≤ _), (by decide : 94 + 1 ≤ _)⟩)
  dsimp only [Pt.U, Pt.locs, Pt.cells, Pt.slots] at X46 l46 y46 z46 st46 hQ46
  subst l46 y46 z46
  obtain ⟨d3, rfl, N46q, Ob46, Ee46, Ff46⟩ := hQ46
  have N46 := Fr.app N45 N46q
  refine own_by st46 ?_
  have O46 := own_ext O41 Ob46
  have base_46 := base_41.ext Ob46
  have ch_46 := ch_41.ext Ob46
  have iv1_46 := iv1_41.ext Ob46
  have iv2_46 := iv2_41.ext Ob46
  have iv3_46 := iv3_41.ext Ob46
  have iv4_46 := iv4_41.ext Ob46
  have nx_46 := own_ext nx_41 Ob46
  have nE_46 := nE_41.ext Ob46
  have n_admitPerTick_46 := n_admitPerTick_41.ext Ob46
  have n_tickSeconds_46 := n_tickSeconds_41.ext Ob46
  have n_maxActive_46 := n_maxActive_41.ext Ob46
  have n_activeSeconds_46 := n_activeSeconds_41.ext Ob46
  have Ed1_46 := Ed1_41.ext Ob46
  have Fd1_46 := Fd1_41.ext Ob46
  have Ex1_46 := Ex1_41.ext Ob46
  have Fx1_46 := Fx1_41.ext Ob46
  have Ed2_46 := Ed2_41.ext Ob46
  have Fd2_46 := Fd2_41.ext Ob46
  have Ex2_46 := Ex41.ext Ob46
  have Fx2_46 := Fx41.ext Ob46
  show own_End p e below _ (T46.setTop (mkF m 67 #[.val (.ref c1), .val .null, .val (.ref ba)] [(.ref d3), v3, (.int (own_sel b2 g2 k2)), (.int (own_sel b1 g1 k1)), (.ref b31), (.ref b31)]))
  obtain ⟨_, _, ⟨T47, L47, k47, n47⟩, -, X47, hS47, gr47, ⟨Lc47, hQ47, l47, y47, z47⟩, st47⟩ := callSS X46 hx (y := (⟨"java/util/Objects", "requireNonNullElse", "(Ljava/lang/Object;Ljava/lang/Object;)Ljava/lang/Object;"⟩ : MethodName)) hown41 (mvT hZ41 (hw _ (List.mem_of_getElem? (i := 71) rfl))) (mvT hZ41 (hw _ (List.mem_of_getElem? (i := 72) rfl))) (mvT hZ41 (hw _ (List.mem_of_getElem? (i := 73) rfl))) (mvT hZ41 (hw _ (List.mem_of_getElem? (i := 74) rfl))) (by decide) (own_backS (W := 4) (own_rne l Z a0 hw [] v3 d3 T46.heap n0 iv3_46.rf) hZ41 (hw _ (List.mem_of_getElem? (i := 74) rfl)) (hw _ (List.mem_of_getElem? (i := 73) rfl)) (by decide) (by decide)) (g := (mkF m 67 #[.val (.ref c1), .val .null, .val (.ref ba)] [(.ref d3), v3, (.int (own_sel b2 g2 k2)), (.int (own_sel b1 g1 k1)), (.ref b31), (.ref b31)])) rfl (by rw [hml]; rfl) (argsL := [v3, (.ref d3)]) (rest := [(.int (own_sel b2 g2 k2)), (.int (own_sel b1 g1 k1)), (.ref b31), (.ref b31)]) (lenOf own_pd5 rfl) rfl (by show 2 * 0 + _ ≤ _; exact Nat.le_of_eq rfl) (hb hby own_d_prog_18_method_2_67) (fun _ _ => ⟨rfl, rfl, (by decide : 8 + 2 ≤ _), (by decide : 95 + 44 ≤ _)⟩)
  dsimp only [Pt.U, Pt.locs, Pt.cells, Pt.slots] at X47 l47 y47 z47 st47 hQ47 hS47 gr47
  subst l47 y47 z47
  obtain ⟨x3, rfl, rs47, N47q, Ob47⟩ := hQ47
  have N47 := Fr.app N46 N47q
  obtain ⟨X47, hS47, hZ47, hown47⟩ := rebS hS41 (show _ ≤ T46.heap.size from (Nat.le_trans (Nat.le_refl _) Ob46.1)) X47 hS47 gr47 hZ41 hown41
  refine own_by (fun _ k => st47.trans k) ?_
  have O47 := own_ext O46 Ob47
  have base_47 := base_46.ext Ob47
  have ch_47 := ch_46.ext Ob47
  have iv1_47 := iv1_46.ext Ob47
  have iv2_47 := iv2_46.ext Ob47
  have iv3_47 := iv3_46.ext Ob47
  have iv4_47 := iv4_46.ext Ob47
  have nx_47 := own_ext nx_46 Ob47
  have nE_47 := nE_46.ext Ob47
  have n_admitPerTick_47 := n_admitPerTick_46.ext Ob47
  have n_tickSeconds_47 := n_tickSeconds_46.ext Ob47
  have n_maxActive_47 := n_maxActive_46.ext Ob47
  have n_activeSeconds_47 := n_activeSeconds_46.ext Ob47
  have Ed1_47 := Ed1_46.ext Ob47
  have Fd1_47 := Fd1_46.ext Ob47
  have Ex1_47 := Ex1_46.ext Ob47
  have Fx1_47 := Fx1_46.ext Ob47
  have Ed2_47 := Ed2_46.ext Ob47
  have Fd2_47 := Fd2_46.ext Ob47
  have Ex2_47 := Ex2_46.ext Ob47
  have Fx2_47 := Fx2_46.ext Ob47
  have Ed3_47 := Ee46.ext Ob47
  have Fd3_47 := Ff46.ext Ob47
  obtain ⟨Ex47, Fx47⟩ := own_pick iv3_47 rs47 Ed3_47 Fd3_47
  show own_End p e below _ (T47.setTop (mkF m 70 #[.val (.ref c1), .val .null, .val (.ref ba)] [(.ref x3), (.int (own_sel b2 g2 k2)), (.int (own_sel b1 g1 k1)), (.ref b31), (.ref b31)]))
  obtain ⟨T48, X48, e48, st48⟩ := castY X47 hx hZ47 hown47 (hw _ (List.mem_of_getElem? (i := 86) rfl)) rfl (Ins.self Ex47) (g := (mkF m 70 #[.val (.ref c1), .val .null, .val (.ref ba)] [(.ref x3), (.int (own_sel b2 g2 k2)), (.int (own_sel b1 g1 k1)), (.ref b31), (.ref b31)])) rfl rfl (hb hby own_d_prog_18_method_2_70)
  refine own_by st48 ?_
  show own_End p e below _ (T48.setTop (mkF m 73 #[.val (.ref c1), .val .null, .val (.ref ba)] [(.ref x3), (.int (own_sel b2 g2 k2)), (.int (own_sel b1 g1 k1)), (.ref b31), (.ref b31)]))
  obtain ⟨cq49, kq49, q49a, q49b, q49c⟩ := isOf hZ47 e48 Ex47
  obtain ⟨_, _, ⟨T49, L49, k49, n49⟩, -, X49, ⟨Lc49, hQ49, l49, y49, z49⟩, st49⟩ := X48.virtualBack hx (y := (⟨"java/lang/Integer", "intValue", "()I"⟩ : MethodName)) (z := (⟨"java/lang/Integer", "intValue", "()I"⟩ : MethodName)) hown47 (mvT hZ47 (hw _ (List.mem_of_getElem? (i := 87) rfl))) (mvT hZ47 (hw _ (List.mem_of_getElem? (i := 88) rfl))) (notFace_of_selects (args := #[]) (mvT hZ47 (hw _ (List.mem_of_getElem? (i := 90) rfl)))) (mvT hZ47 (hw _ (List.mem_of_getElem? (i := 90) rfl))) (mvT hZ47 (hw _ (List.mem_of_getElem? (i := 89) rfl))) (by decide) (own_back (W := 4) (own_ival l Z a0 hw [] x3 (own_sel b3 g3 k3) T47.heap n0 Fx47) hZ47 (hw _ (List.mem_of_getElem? (i := 91) rfl)) (hw _ (List.mem_of_getElem? (i := 24) rfl)) (by decide) (by decide)) q49a q49c (g := (mkF m 73 #[.val (.ref c1), .val .null, .val (.ref ba)] [(.ref x3), (.int (own_sel b2 g2 k2)), (.int (own_sel b1 g1 k1)), (.ref b31), (.ref b31)])) rfl (by rw [hml]; rfl) (Steps.refl _) (argsL := []) (rest := [(.int (own_sel b2 g2 k2)), (.int (own_sel b1 g1 k1)), (.ref b31), (.ref b31)]) (lenOf own_pd3 rfl) rfl (by show 2 * 0 + _ ≤ _; exact Nat.le_of_eq rfl) (hb hby own_d_prog_18_method_2_73) (fun _ _ => ⟨rfl, e48, (by decide : 10 + 0 ≤ _), (by decide : 139 + 0 ≤ _)⟩)
  dsimp only [Pt.U, Pt.locs, Pt.cells, Pt.slots] at X49 l49 y49 z49 st49 hQ49
  subst l49 y49 z49
  obtain ⟨rfl, N49q, e49⟩ := hQ49
  have N49 := Fr.app N47 N49q
  refine own_by (fun _ k => st49.trans k) ?_
  show own_End p e below _ (T49.setTop (mkF m 76 #[.val (.ref c1), .val .null, .val (.ref ba)] [(.int (own_sel b3 g3 k3)), (.int (own_sel b2 g2 k2)), (.int (own_sel b1 g1 k1)), (.ref b31), (.ref b31)]))
  refine own_by (fun _ k => XS.aloadN X49.here hx rfl (hb hby own_d_prog_18_method_2_76) rfl rfl k) ?_
  show own_End p e below _ (T49.setTop (mkF m 77 #[.val (.ref c1), .val .null, .val (.ref ba)] [(.ref c1), (.int (own_sel b3 g3 k3)), (.int (own_sel b2 g2 k2)), (.int (own_sel b1 g1 k1)), (.ref b31), (.ref b31)]))
  obtain ⟨T50, X50, e50, st50⟩ := getF X49 hx hZ47 hown47 (host := "") (Or.inl (hw _ (List.mem_of_getElem? (i := 42) rfl))) Via.refl e49 ch_47.2.2.2.2 (g := (mkF m 77 #[.val (.ref c1), .val .null, .val (.ref ba)] [(.ref c1), (.int (own_sel b3 g3 k3)), (.int (own_sel b2 g2 k2)), (.int (own_sel b1 g1 k1)), (.ref b31), (.ref b31)])) rfl rfl (hb hby own_d_prog_18_method_2_77)
  refine own_by st50 ?_
  show own_End p e below _ (T50.setTop (mkF m 80 #[.val (.ref c1), .val .null, .val (.ref ba)] [v4, (.int (own_sel b3 g3 k3)), (.int (own_sel b2 g2 k2)), (.int (own_sel b1 g1 k1)), (.ref b31), (.ref b31)]))
  refine own_by (fun _ k => XS.aloadN X50.here hx rfl (hb hby own_d_prog_18_method_2_80) rfl rfl k) ?_
  show own_End p e below _ (T50.setTop (mkF m 81 #[.val (.ref c1), .val .null, .val (.ref ba)] [(.ref ba), v4, (.int (own_sel b3 g3 k3)), (.int (own_sel b2 g2 k2)), (.int (own_sel b1 g1 k1)), (.ref b31), (.ref b31)]))
  obtain ⟨cq51, kq51, q51a, q51b, q51c⟩ := isOf hZ47 e50 base_47.1
  obtain ⟨_, _, ⟨T51, L51, k51, n51⟩, -, X51, ⟨Lc51, hQ51, l51, y51, z51⟩, st51⟩ := X50.virtualBack hx (y := (⟨"com/example/hongdae/hongdae/sale/WaitingRoom", "activeSeconds", "()I"⟩ : MethodName)) (z := (⟨"com/example/hongdae/hongdae/sale/WaitingRoom", "activeSeconds", "()I"⟩ : MethodName)) hown47 (mvT hZ47 (hw _ (List.mem_of_getElem? (i := 102) rfl))) (mvT hZ47 (hw _ (List.mem_of_getElem? (i := 103) rfl))) (notFace_of_selects (args := #[]) (mvT hZ47 (hw _ (List.mem_of_getElem? (i := 105) rfl)))) (mvT hZ47 (hw _ (List.mem_of_getElem? (i := 105) rfl))) (mvT hZ47 (hw _ (List.mem_of_getElem? (i := 104) rfl))) (by decide) (own_back (W := 6) (own_get4 l Z a0 hw [] ba k4 T47.heap n0 base_47.2.2.2.2) hZ47 (hw _ (List.mem_of_getElem? (i := 106) rfl)) (hw _ (List.mem_of_getElem? (i := 2) rfl)) (by decide) (by decide)) q51a q51c (g := (mkF m 81 #[.val (.ref c1), .val .null, .val (.ref ba)] [(.ref ba), v4, (.int (own_sel b3 g3 k3)), (.int (own_sel b2 g2 k2)), (.int (own_sel b1 g1 k1)), (.ref b31), (.ref b31)])) rfl (by rw [hml]; rfl) (Steps.refl _) (argsL := []) (rest := [v4, (.int (own_sel b3 g3 k3)), (.int (own_sel b2 g2 k2)), (.int (own_sel b1 g1 k1)), (.ref b31), (.ref b31)]) (lenOf own_pd3 rfl) rfl (by show 2 * 0 + (v4.category + _) ≤ _; rw [iv4.rf.cat]; exact Nat.le_of_eq rfl) (hb hby own_d_prog_18_method_2_81) (fun _ _ => ⟨rfl, e50, (by decide : 10 + 0 ≤ _), (by decide : 139 + 0 ≤ _)⟩)
  dsimp only [Pt.U, Pt.locs, Pt.cells, Pt.slots] at X51 l51 y51 z51 st51 hQ51
  subst l51 y51 z51
  obtain ⟨rfl, N51q, e51⟩ := hQ51
  have N51 := Fr.app N49 N51q
  refine own_by (fun _ k => st51.trans k) ?_
  show own_End p e below _ (T51.setTop (mkF m 84 #[.val (.ref c1), .val .null, .val (.ref ba)] [(.int k4), v4, (.int (own_sel b3 g3 k3)), (.int (own_sel b2 g2 k2)), (.int (own_sel b1 g1 k1)), (.ref b31), (.ref b31)]))
  obtain ⟨_, _, ⟨T52, L52, k52, n52⟩, -, X52, ⟨Lc52, hQ52, l52, y52, z52⟩, st52⟩ := Jvm.LawKit.callS X51 hx (y := (⟨"java/lang/Integer", "valueOf", "(I)Ljava/lang/Integer;"⟩ : MethodName)) hown47 (mvT hZ47 (hw _ (List.mem_of_getElem? (i := 55) rfl))) (mvT hZ47 (hw _ (List.mem_of_getElem? (i := 23) rfl))) (mvT hZ47 (hw _ (List.mem_of_getElem? (i := 24) rfl))) (mvT hZ47 (hw _ (List.mem_of_getElem? (i := 25) rfl))) (by decide) (own_back (W := 6) (own_vof l Z a0 hw [] k4 T47.heap n0 Z0 O47 hC) hZ47 (hw _ (List.mem_of_getElem? (i := 25) rfl)) (hw _ (List.mem_of_getElem? (i := 24) rfl)) (by decide) (by decide)) (g := (mkF m 84 #[.val (.ref c1), .val .null, .val (.ref ba)] [(.int k4), v4, (.int (own_sel b3 g3 k3)), (.int (own_sel b2 g2 k2)), (.int (own_sel b1 g1 k1)), (.ref b31), (.ref b31)])) rfl (by rw [hml]; rfl) (argsL := [(.int k4)]) (rest := [v4, (.int (own_sel b3 g3 k3)), (.int (own_sel b2 g2 k2)), (.int (own_sel b1 g1 k1)), (.ref b31), (.ref b31)]) (lenOf own_pd4 rfl) rfl (by show 2 * 0 + (v4.category + _) ≤ _; rw [iv4.rf.cat]; exact Nat.le_of_eq rfl) (hb hby own_d_prog_18_method_2_84) (fun _ _ => ⟨rfl, e51, (by decide : 10 + 1 ≤ _), (by decide : 139 + 1 ≤ _)⟩)
  dsimp only [Pt.U, Pt.locs, Pt.cells, Pt.slots] at X52 l52 y52 z52 st52 hQ52
  subst l52 y52 z52
  obtain ⟨d4, rfl, N52q, Ob52, Ee52, Ff52⟩ := hQ52
  have N52 := Fr.app N51 N52q
  refine own_by st52 ?_
  have O52 := own_ext O47 Ob52
  have base_52 := base_47.ext Ob52
  have ch_52 := ch_47.ext Ob52
  have iv1_52 := iv1_47.ext Ob52
  have iv2_52 := iv2_47.ext Ob52
  have iv3_52 := iv3_47.ext Ob52
  have iv4_52 := iv4_47.ext Ob52
  have nx_52 := own_ext nx_47 Ob52
  have nE_52 := nE_47.ext Ob52
  have n_admitPerTick_52 := n_admitPerTick_47.ext Ob52
  have n_tickSeconds_52 := n_tickSeconds_47.ext Ob52
  have n_maxActive_52 := n_maxActive_47.ext Ob52
  have n_activeSeconds_52 := n_activeSeconds_47.ext Ob52
  have Ed1_52 := Ed1_47.ext Ob52
  have Fd1_52 := Fd1_47.ext Ob52
  have Ex1_52 := Ex1_47.ext Ob52
  have Fx1_52 := Fx1_47.ext Ob52
  have Ed2_52 := Ed2_47.ext Ob52
  have Fd2_52 := Fd2_47.ext Ob52
  have Ex2_52 := Ex2_47.ext Ob52
  have Fx2_52 := Fx2_47.ext Ob52
  have Ed3_52 := Ed3_47.ext Ob52
  have Fd3_52 := Fd3_47.ext Ob52
  have Ex3_52 := Ex47.ext Ob52
  have Fx3_52 := Fx47.ext Ob52
  show own_End p e below _ (T52.setTop (mkF m 87 #[.val (.ref c1), .val .null, .val (.ref ba)] [(.ref d4), v4, (.int (own_sel b3 g3 k3)), (.int (own_sel b2 g2 k2)), (.int (own_sel b1 g1 k1)), (.ref b31), (.ref b31)]))
  obtain ⟨_, _, ⟨T53, L53, k53, n53⟩, -, X53, hS53, gr53, ⟨Lc53, hQ53, l53, y53, z53⟩, st53⟩ := callSS X52 hx (y := (⟨"java/util/Objects", "requireNonNullElse", "(Ljava/lang/Object;Ljava/lang/Object;)Ljava/lang/Object;"⟩ : MethodName)) hown47 (mvT hZ47 (hw _ (List.mem_of_getElem? (i := 71) rfl))) (mvT hZ47 (hw _ (List.mem_of_getElem? (i := 72) rfl))) (mvT hZ47 (hw _ (List.mem_of_getElem? (i := 73) rfl))) (mvT hZ47 (hw _ (List.mem_of_getElem? (i := 74) rfl))) (by decide) (own_backS (W := 5) (own_rne l Z a0 hw [] v4 d4 T52.heap n0 iv4_52.rf) hZ47 (hw _ (List.mem_of_getElem? (i := 74) rfl)) (hw _ (List.mem_of_getElem? (i := 73) rfl)) (by decide) (by decide)) (g := (mkF m 87 #[.val (.ref c1), .val .null, .val (.ref ba)] [(.ref d4), v4, (.int (own_sel b3 g3 k3)), (.int (own_sel b2 g2 k2)), (.int (own_sel b1 g1 k1)), (.ref b31), (.ref b31)])) rfl (by rw [hml]; rfl) (argsL := [v4, (.ref d4)]) (rest := [(.int (own_sel b3 g3 k3)), (.int (own_sel b2 g2 k2)), (.int (own_sel b1 g1 k1)), (.ref b31), (.ref b31)]) (lenOf own_pd5 rfl) rfl (by show 2 * 0 + _ ≤ _; exact Nat.le_of_eq rfl) (hb hby own_d_prog_18_method_2_87) (fun _ _ => ⟨rfl, rfl, (by decide : 11 + 2 ≤ _), (by decide : 140 + 44 ≤ _)⟩)
  dsimp only [Pt.U, Pt.locs, Pt.cells, Pt.slots] at X53 l53 y53 z53 st53 hQ53 hS53 gr53
  subst l53 y53 z53
  obtain ⟨x4, rfl, rs53, N53q, Ob53⟩ := hQ53
  have N53 := Fr.app N52 N53q
  obtain ⟨X53, hS53, hZ53, hown53⟩ := rebS hS47 (show _ ≤ T52.heap.size from (Nat.le_trans (Nat.le_refl _) Ob52.1)) X53 hS53 gr53 hZ47 hown47
  refine own_by (fun _ k => st53.trans k) ?_
  have O53 := own_ext O52 Ob53
  have base_53 := base_52.ext Ob53
  have ch_53 := ch_52.ext Ob53
  have iv1_53 := iv1_52.ext Ob53
  have iv2_53 := iv2_52.ext Ob53
  have iv3_53 := iv3_52.ext Ob53
  have iv4_53 := iv4_52.ext Ob53
  have nx_53 := own_ext nx_52 Ob53
  have nE_53 := nE_52.ext Ob53
  have n_admitPerTick_53 := n_admitPerTick_52.ext Ob53
  have n_tickSeconds_53 := n_tickSeconds_52.ext Ob53
  have n_maxActive_53 := n_maxActive_52.ext Ob53
  have n_activeSeconds_53 := n_activeSeconds_52.ext Ob53
  have Ed1_53 := Ed1_52.ext Ob53
  have Fd1_53 := Fd1_52.ext Ob53
  have Ex1_53 := Ex1_52.ext Ob53
  have Fx1_53 := Fx1_52.ext Ob53
  have Ed2_53 := Ed2_52.ext Ob53
  have Fd2_53 := Fd2_52.ext Ob53
  have Ex2_53 := Ex2_52.ext Ob53
  have Fx2_53 := Fx2_52.ext Ob53
  have Ed3_53 := Ed3_52.ext Ob53
  have Fd3_53 := Fd3_52.ext Ob53
  have Ex3_53 := Ex3_52.ext Ob53
  have Fx3_53 := Fx3_52.ext Ob53
  have Ed4_53 := Ee52.ext Ob53
  have Fd4_53 := Ff52.ext Ob53
  obtain ⟨Ex53, Fx53⟩ := own_pick iv4_53 rs53 Ed4_53 Fd4_53
  show own_End p e below _ (T53.setTop (mkF m 90 #[.val (.ref c1), .val .null, .val (.ref ba)] [(.ref x4), (.int (own_sel b3 g3 k3)), (.int (own_sel b2 g2 k2)), (.int (own_sel b1 g1 k1)), (.ref b31), (.ref b31)]))
  obtain ⟨T54, X54, e54, st54⟩ := castY X53 hx hZ53 hown53 (hw _ (List.mem_of_getElem? (i := 86) rfl)) rfl (Ins.self Ex53) (g := (mkF m 90 #[.val (.ref c1), .val .null, .val (.ref ba)] [(.ref x4), (.int (own_sel b3 g3 k3)), (.int (own_sel b2 g2 k2)), (.int (own_sel b1 g1 k1)), (.ref b31), (.ref b31)])) rfl rfl (hb hby own_d_prog_18_method_2_90)
  refine own_by st54 ?_
  show own_End p e below _ (T54.setTop (mkF m 93 #[.val (.ref c1), .val .null, .val (.ref ba)] [(.ref x4), (.int (own_sel b3 g3 k3)), (.int (own_sel b2 g2 k2)), (.int (own_sel b1 g1 k1)), (.ref b31), (.ref b31)]))
  obtain ⟨cq55, kq55, q55a, q55b, q55c⟩ := isOf hZ53 e54 Ex53
  obtain ⟨_, _, ⟨T55, L55, k55, n55⟩, -, X55, ⟨Lc55, hQ55, l55, y55, z55⟩, st55⟩ := X54.virtualBack hx (y := (⟨"java/lang/Integer", "intValue", "()I"⟩ : MethodName)) (z := (⟨"java/lang/Integer", "intValue", "()I"⟩ : MethodName)) hown53 (mvT hZ53 (hw _ (List.mem_of_getElem? (i := 87) rfl))) (mvT hZ53 (hw _ (List.mem_of_getElem? (i := 88) rfl))) (notFace_of_selects (args := #[]) (mvT hZ53 (hw _ (List.mem_of_getElem? (i := 90) rfl)))) (mvT hZ53 (hw _ (List.mem_of_getElem? (i := 90) rfl))) (mvT hZ53 (hw _ (List.mem_of_getElem? (i := 89) rfl))) (by decide) (own_back (W := 5) (own_ival l Z a0 hw [] x4 (own_sel b4 g4 k4) T53.heap n0 Fx53) hZ53 (hw _ (List.mem_of_getElem? (i := 91) rfl)) (hw _ (List.mem_of_getElem? (i := 24) rfl)) (by decide) (by decide)) q55a q55c (g := (mkF m 93 #[.val (.ref c1), .val .null, .val (.ref ba)] [(.ref x4), (.int (own_sel b3 g3 k3)), (.int (own_sel b2 g2 k2)), (.int (own_sel b1 g1 k1)), (.ref b31), (.ref b31)])) rfl (by rw [hml]; rfl) (Steps.refl _) (argsL := []) (rest := [(.int (own_sel b3 g3 k3)), (.int (own_sel b2 g2 k2)), (.int (own_sel b1 g1 k1)), (.ref b31), (.ref b31)]) (lenOf own_pd3 rfl) rfl (by show 2 * 0 + _ ≤ _; exact Nat.le_of_eq rfl) (hb hby own_d_prog_18_method_2_93) (fun _ _ => ⟨rfl, e54, (by decide : 13 + 0 ≤ _), (by decide : 184 + 0 ≤ _)⟩)
  dsimp only [Pt.U, Pt.locs, Pt.cells, Pt.slots] at X55 l55 y55 z55 st55 hQ55
  subst l55 y55 z55
  obtain ⟨rfl, N55q, e55⟩ := hQ55
  have N55 := Fr.app N53 N55q
  refine own_by (fun _ k => st55.trans k) ?_
  show own_End p e below _ (T55.setTop (mkF m 96 #[.val (.ref c1), .val .null, .val (.ref ba)] [(.int (own_sel b4 g4 k4)), (.int (own_sel b3 g3 k3)), (.int (own_sel b2 g2 k2)), (.int (own_sel b1 g1 k1)), (.ref b31), (.ref b31)]))
  obtain ⟨_, _, ⟨T56, L56, k56, n56⟩, -, X56, ⟨Lc56, hQ56, l56, y56, z56⟩, st56⟩ := X55.specialBack hx (y := (⟨"com/example/hongdae/hongdae/sale/WaitingRoom", "<init>", "(IIII)V"⟩ : MethodName)) rfl hown53 (mvT hZ53 (hw _ (List.mem_of_getElem? (i := 107) rfl))) (mvT hZ53 (hw _ (List.mem_of_getElem? (i := 4) rfl))) (mvT hZ53 (hw _ (List.mem_of_getElem? (i := 5) rfl))) (by decide) (own_back (W := 1) (own_wri l Z a0 hw [] b31 (own_sel b1 g1 k1) (own_sel b2 g2 k2) (own_sel b3 g3 k3) (own_sel b4 g4 k4) T53.heap n0 h0 nx_53 (Nat.le_of_eq g31.symm) Z0 g_b31 nE_53 n_admitPerTick_53 n_tickSeconds_53 n_maxActive_53 n_activeSeconds_53) hZ53 (hw _ (List.mem_of_getElem? (i := 5) rfl)) (hw _ (List.mem_of_getElem? (i := 2) rfl)) (by decide) (by decide)) (g := (mkF m 96 #[.val (.ref c1), .val .null, .val (.ref ba)] [(.int (own_sel b4 g4 k4)), (.int (own_sel b3 g3 k3)), (.int (own_sel b2 g2 k2)), (.int (own_sel b1 g1 k1)), (.ref b31), (.ref b31)])) rfl (by rw [hml]; rfl) (Steps.refl _) (a := b31) (argsL := [(.int (own_sel b1 g1 k1)), (.int (own_sel b2 g2 k2)), (.int (own_sel b3 g3 k3)), (.int (own_sel b4 g4 k4))]) (rest := [(.ref b31)]) (lenOf own_pd6 rfl) rfl (by show 2 * 0 + _ ≤ _; exact Nat.le_of_eq rfl) (hb hby own_d_prog_18_method_2_96) (fun _ _ => ⟨rfl, e55, (by decide : 13 + 0 ≤ _), (by decide : 184 + 0 ≤ _)⟩)
  dsimp only [Pt.U, Pt.locs, Pt.cells, Pt.slots] at X56 l56 y56 z56 st56 hQ56
  subst l56 y56 z56
  obtain ⟨rfl, N56q, Ob56, Kp56, Fm56⟩ := hQ56
  have N56 := Fr.app N55 N56q
  refine own_by (fun _ k => st56.trans k) ?_
  show own_End p e below _ (T56.setTop (mkF m 99 #[.val (.ref c1), .val .null, .val (.ref ba)] [(.ref b31)]))
  obtain ⟨fs, hr, hrun, hended, hW⟩ := X56.leaveW (v := (some (.ref b31))) hS53 (show _ ≤ _ from (Nat.le_trans (Nat.le_refl _) Kp56)) (fun h => by rw [Bd.returns] at h; cases h)
  refine ⟨_, _, retOut X56 hx Bd.returns rfl (Or.inr (Or.inr (Or.inr (Or.inr ⟨rfl, rfl, rfl⟩)))) (hb hby own_d_prog_18_method_2_99) hr, hrun, hended, _, _, rfl, ?_, own_rw hW (by decide) (by decide)⟩
  have hfin : (T56.setFrames fs).heap = T56.heap := rfl
  exact ⟨_, rfl, N56, Fm56⟩
set_option maxRecDepth 65536 in
set_option maxHeartbeats 40000000 in
theorem own_appR (l : Launch) (Z : State) (a0 : Array Value) (hw : ∀ d ∈ tables_1, d.before a0 Z = true) (ws : List Jvm.Cond) (c1 ba : Addr) (v1 v2 v3 v4 : Value) (b1 b2 b3 b4 g1 g2 g3 g4 k1 k2 k3 k4 : Int32) (h0 : Heap) (n0 : Nat) (Z0 : n0 ≤ Z.heap.size) (O : Ext Z.heap h0) (hC : own_IC Z) (base : own_WRf Z h0 ba k1 k2 k3 k4) (ch : own_CHf Z h0 c1 v1 v2 v3 v4) (iv1 : own_IV Z h0 b1 g1 v1) (iv2 : own_IV Z h0 b2 g2 v2) (iv3 : own_IV Z h0 b3 g3 v3) (iv4 : own_IV Z h0 b4 g4 v4) :
    own_MetW l Z (⟨"com/example/hongdae/hongdae/sale/WaitingRoom$Change", "applyTo", "(Lcom/example/hongdae/hongdae/sale/WaitingRoom;)Lcom/example/hongdae/hongdae/sale/WaitingRoom;"⟩ : MethodName) prog_18_method_2_code 3 (some (.object "com/example/hongdae/hongdae/sale/WaitingRoom")) ws ({ frames := 4, cells := 13, slots := 184, locals := 56 } : Room) #[(.ref c1), (.ref ba)] h0 (fun v h L => ∃ x : Addr, v = some (.ref x) ∧ Fr n0 L ∧ own_WRf Z h x (own_sel b1 g1 k1) (own_sel b2 g2 k2) (own_sel b3 g3 k3) (own_sel b4 g4 k4)) := by
  refine MetFree.of_bodySF (plainFor_of_name own_pn4) hisR ?_
  intro p e s m args below meth c s₁ Bd hml0 hP hK
  obtain ⟨rfl, hZ, hh⟩ := hP
  have hx := Bd.exec
  have hby := Bd.bytes
  have hml : c.maxLocals = 3 := hml0
  have hown : s.vm.findClass "com/example/hongdae/hongdae/sale/WaitingRoom$Change" = some m.cls := findClass_of_methodNamed Bd.named
  have hnm := (name_of_methodNamed Bd.named Bd.method).1
  have X0 : Stand p l e ({ frames := 4, cells := 13, slots := 184, locals := 56 } : Room) s m #[(.ref c1), (.ref ba)] below meth c s₁ [] 0 0 := Stand.of_body Bd
  have e0 : s₁.heap = h0 := by rw [← hh, Bd.state]; rfl
  have N0 := Fr.nil n0
  have ef : entryFrame m #[(.ref c1), (.ref ba)] 3 = mkF m 0 #[.val (.ref c1), .val (.ref ba), .unset] [] := by first | (simp [entryFrame, mkF, argsToLocals, Value.category, maxLocals]; done) | rfl
  show own_End p e below _ (s₁.setTop (entryFrame m #[(.ref c1), (.ref ba)] 3))
  refine own_by (fun _ k => castTop ef k) ?_
  show own_End p e below _ (s₁.setTop (mkF m 0 #[.val (.ref c1), .val (.ref ba), .unset] []))
  refine own_by (fun _ k => XS.aloadN X0.here hx rfl (hb hby own_d_prog_18_method_2_0) rfl rfl k) ?_
  show own_End p e below _ (s₁.setTop (mkF m 1 #[.val (.ref c1), .val (.ref ba), .unset] [(.ref ba)]))
  refine own_by (fun _ k => XS.ifnonnullYes X0.here hx rfl (pc0 := 1) (pc' := 10) rfl (hb hby own_d_prog_18_method_2_1) rfl (by decide) (by decide) k) ?_
  show own_End p e below _ (s₁.setTop (mkF m 10 #[.val (.ref c1), .val (.ref ba), .unset] []))
  refine own_by (fun _ k => XS.aloadN X0.here hx rfl (hb hby own_d_prog_18_method_2_10) rfl rfl k) ?_
  show own_End p e below _ (s₁.setTop (mkF m 11 #[.val (.ref c1), .val (.ref ba), .unset] [(.ref ba)]))
  refine own_by (fun _ k => XS.astoreN X0.here hx rfl (hb hby own_d_prog_18_method_2_11) rfl rfl (l' := #[.val (.ref c1), .val (.ref ba), .val (.ref ba)]) rfl k) ?_
  show own_End p e below _ (s₁.setTop (mkF m 12 #[.val (.ref c1), .val (.ref ba), .val (.ref ba)] []))
  obtain ⟨T57, h57, X57, e57, E57, A57, D57, -, st57⟩ := newO X0 hx hZ hown (hw _ (List.mem_of_getElem? (i := 49) rfl)) (hw _ (List.mem_of_getElem? (i := 1) rfl)) (hw _ (List.mem_of_getElem? (i := 2) rfl)) e0 (g := (mkF m 12 #[.val (.ref c1), .val (.ref ba), .val (.ref ba)] [])) rfl (hb hby own_d_prog_18_method_2_12) (by decide) (by decide)
  obtain ⟨b57, g57⟩ : ∃ z, z = h0.size := ⟨_, rfl⟩
  rw [← g57] at A57 D57 st57
  have g_b57 : Z.heap.size ≤ b57 := Nat.le_trans O.1 (Nat.le_of_eq g57.symm)
  have F57_admitPerTick : Fld Z h57 b57 "com/example/hongdae/hongdae/sale/WaitingRoom" "admitPerTick" "I" (.int (0 : Int32)) := D57 (Or.inr (hw _ (List.mem_of_getElem? (i := 15) rfl))) (ty := .int) (by decide)
  have F57_tickSeconds : Fld Z h57 b57 "com/example/hongdae/hongdae/sale/WaitingRoom" "tickSeconds" "I" (.int (0 : Int32)) := D57 (Or.inr (hw _ (List.mem_of_getElem? (i := 17) rfl))) (ty := .int) (by decide)
  have F57_maxActive : Fld Z h57 b57 "com/example/hongdae/hongdae/sale/WaitingRoom" "maxActive" "I" (.int (0 : Int32)) := D57 (Or.inr (hw _ (List.mem_of_getElem? (i := 19) rfl))) (ty := .int) (by decide)
  have F57_activeSeconds : Fld Z h57 b57 "com/example/hongdae/hongdae/sale/WaitingRoom" "activeSeconds" "I" (.int (0 : Int32)) := D57 (Or.inr (hw _ (List.mem_of_getElem? (i := 21) rfl))) (ty := .int) (by decide)
  refine own_by st57 ?_
  have O57 := own_ext O E57
  have base_57 := base.ext E57
  have ch_57 := ch.ext E57
  have iv1_57 := iv1.ext E57
  have iv2_57 := iv2.ext E57
  have iv3_57 := iv3.ext E57
  have iv4_57 := iv4.ext E57
  show own_End p e below _ (T57.setTop (mkF m 15 #[.val (.ref c1), .val (.ref ba), .val (.ref ba)] [(.ref b57)]))
  refine own_by (fun _ k => XS.dup X57.here hx rfl (hb hby own_d_prog_18_method_2_15) rfl rfl k) ?_
  show own_End p e below _ (T57.setTop (mkF m 16 #[.val (.ref c1), .val (.ref ba), .val (.ref ba)] [(.ref b57), (.ref b57)]))
  refine own_by (fun _ k => XS.aloadN X57.here hx rfl (hb hby own_d_prog_18_method_2_16) rfl rfl k) ?_
  show own_End p e below _ (T57.setTop (mkF m 17 #[.val (.ref c1), .val (.ref ba), .val (.ref ba)] [(.ref c1), (.ref b57), (.ref b57)]))
  obtain ⟨T58, X58, e58, st58⟩ := getF X57 hx hZ hown (host := "") (Or.inl (hw _ (List.mem_of_getElem? (i := 36) rfl))) Via.refl e57 ch_57.2.1 (g := (mkF m 17 #[.val (.ref c1), .val (.ref ba), .val (.ref ba)] [(.ref c1), (.ref b57), (.ref b57)])) rfl rfl (hb hby own_d_prog_18_method_2_17)
  refine own_by st58 ?_
  show own_End p e below _ (T58.setTop (mkF m 20 #[.val (.ref c1), .val (.ref ba), .val (.ref ba)] [v1, (.ref b57), (.ref b57)]))
  refine own_by (fun _ k => XS.aloadN X58.here hx rfl (hb hby own_d_prog_18_method_2_20) rfl rfl k) ?_
  show own_End p e below _ (T58.setTop (mkF m 21 #[.val (.ref c1), .val (.ref ba), .val (.ref ba)] [(.ref ba), v1, (.ref b57), (.ref b57)]))
  obtain ⟨cq59, kq59, q59a, q59b, q59c⟩ := isOf hZ e58 base_57.1
  obtain ⟨_, _, ⟨T59, L59, k59, n59⟩, -, X59, ⟨Lc59, hQ59, l59, y59, z59⟩, st59⟩ := X58.virtualBack hx (y := (⟨"com/example/hongdae/hongdae/sale/WaitingRoom", "admitPerTick", "()I"⟩ : MethodName)) (z := (⟨"com/example/hongdae/hongdae/sale/WaitingRoom", "admitPerTick", "()I"⟩ : MethodName)) hown (mvT hZ (hw _ (List.mem_of_getElem? (i := 50) rfl))) (mvT hZ (hw _ (List.mem_of_getElem? (i := 51) rfl))) (notFace_of_selects (args := #[]) (mvT hZ (hw _ (List.mem_of_getElem? (i := 53) rfl)))) (mvT hZ (hw _ (List.mem_of_getElem? (i := 53) rfl))) (mvT hZ (hw _ (List.mem_of_getElem? (i := 52) rfl))) (by decide) (own_back (W := 3) (own_get1 l Z a0 hw [] ba k1 h57 n0 base_57.2.1) hZ (hw _ (List.mem_of_getElem? (i := 54) rfl)) (hw _ (List.mem_of_getElem? (i := 2) rfl)) (by decide) (by decide)) q59a q59c (g := (mkF m 21 #[.val (.ref c1), .val (.ref ba), .val (.ref ba)] [(.ref ba), v1, (.ref b57), (.ref b57)])) rfl (by rw [hml]; rfl) (Steps.refl _) (argsL := []) (rest := [v1, (.ref b57), (.ref b57)]) (lenOf own_pd3 rfl) rfl (by show 2 * 0 + (v1.category + _) ≤ _; rw [iv1.rf.cat]; exact Nat.le_of_eq rfl) (hb hby own_d_prog_18_method_2_21) (fun _ _ => ⟨rfl, e58, (by decide : 1 + 0 ≤ _), (by decide : 4 + 0 ≤ _)⟩)
  dsimp only [Pt.U, Pt.locs, Pt.cells, Pt.slots] at X59 l59 y59 z59 st59 hQ59
  subst l59 y59 z59
  obtain ⟨rfl, N59q, e59⟩ := hQ59
  have N59 := Fr.app N0 N59q
  refine own_by (fun _ k => st59.trans k) ?_
  show own_End p e below _ (T59.setTop (mkF m 24 #[.val (.ref c1), .val (.ref ba), .val (.ref ba)] [(.int k1), v1, (.ref b57), (.ref b57)]))
  obtain ⟨_, _, ⟨T60, L60, k60, n60⟩, -, X60, ⟨Lc60, hQ60, l60, y60, z60⟩, st60⟩ := Jvm.LawKit.callS X59 hx (y := (⟨"java/lang/Integer", "valueOf", "(I)Ljava/lang/Integer;"⟩ : MethodName)) hown (mvT hZ (hw _ (List.mem_of_getElem? (i := 55) rfl))) (mvT hZ (hw _ (List.mem_of_getElem? (i := 23) rfl))) (mvT hZ (hw _ (List.mem_of_getElem? (i := 24) rfl))) (mvT hZ (hw _ (List.mem_of_getElem? (i := 25) rfl))) (by decide) (own_back (W := 3) (own_vof l Z a0 hw [] k1 h57 n0 Z0 O57 hC) hZ (hw _ (List.mem_of_getElem? (i := 25) rfl)) (hw _ (List.mem_of_getElem? (i := 24) rfl)) (by decide) (by decide)) (g := (mkF m 24 #[.val (.ref c1), .val (.ref ba), .val (.ref ba)] [(.int k1), v1, (.ref b57), (.ref b57)])) rfl (by rw [hml]; rfl) (argsL := [(.int k1)]) (rest := [v1, (.ref b57), (.ref b57)]) (lenOf own_pd4 rfl) rfl (by show 2 * 0 + (v1.category + _) ≤ _; rw [iv1.rf.cat]; exact Nat.le_of_eq rfl) (hb hby own_d_prog_18_method_2_24) (fun _ _ => ⟨rfl, e59, (by decide : 1 + 1 ≤ _), (by decide : 4 + 1 ≤ _)⟩)
  dsimp only [Pt.U, Pt.locs, Pt.cells, Pt.slots] at X60 l60 y60 z60 st60 hQ60
  subst l60 y60 z60
  obtain ⟨d1, rfl, N60q, Ob60, Ee60, Ff60⟩ := hQ60
  have N60 := Fr.app N59 N60q
  refine own_by st60 ?_
  have O60 := own_ext O57 Ob60
  have base_60 := base_57.ext Ob60
  have ch_60 := ch_57.ext Ob60
  have iv1_60 := iv1_57.ext Ob60
  have iv2_60 := iv2_57.ext Ob60
  have iv3_60 := iv3_57.ext Ob60
  have iv4_60 := iv4_57.ext Ob60
  have nx_60 := own_ext E57 Ob60
  have nE_60 := A57.ext Ob60
  have n_admitPerTick_60 := F57_admitPerTick.ext Ob60
  have n_tickSeconds_60 := F57_tickSeconds.ext Ob60
  have n_maxActive_60 := F57_maxActive.ext Ob60
  have n_activeSeconds_60 := F57_activeSeconds.ext Ob60
  show own_End p e below _ (T60.setTop (mkF m 27 #[.val (.ref c1), .val (.ref ba), .val (.ref ba)] [(.ref d1), v1, (.ref b57), (.ref b57)]))
  obtain ⟨_, _, ⟨T61, L61, k61, n61⟩, -, X61, hS61, gr61, ⟨Lc61, hQ61, l61, y61, z61⟩, st61⟩ := callSS X60 hx (y := (⟨"java/util/Objects", "requireNonNullElse", "(Ljava/lang/Object;Ljava/lang/Object;)Ljava/lang/Object;"⟩ : MethodName)) hown (mvT hZ (hw _ (List.mem_of_getElem? (i := 71) rfl))) (mvT hZ (hw _ (List.mem_of_getElem? (i := 72) rfl))) (mvT hZ (hw _ (List.mem_of_getElem? (i := 73) rfl))) (mvT hZ (hw _ (List.mem_of_getElem? (i := 74) rfl))) (by decide) (own_backS (W := 2) (own_rne l Z a0 hw [] v1 d1 T60.heap n0 iv1_60.rf) hZ (hw _ (List.mem_of_getElem? (i := 74) rfl)) (hw _ (List.mem_of_getElem? (i := 73) rfl)) (by decide) (by decide)) (g := (mkF m 27 #[.val (.ref c1), .val (.ref ba), .val (.ref ba)] [(.ref d1), v1, (.ref b57), (.ref b57)])) rfl (by rw [hml]; rfl) (argsL := [v1, (.ref d1)]) (rest := [(.ref b57), (.ref b57)]) (lenOf own_pd5 rfl) rfl (by show 2 * 0 + _ ≤ _; exact Nat.le_of_eq rfl) (hb hby own_d_prog_18_method_2_27) (fun _ _ => ⟨rfl, rfl, (by decide : 2 + 2 ≤ _), (by decide : 5 + 44 ≤ _)⟩)
  dsimp only [Pt.U, Pt.locs, Pt.cells, Pt.slots] at X61 l61 y61 z61 st61 hQ61 hS61 gr61
  subst l61 y61 z61
  obtain ⟨x1, rfl, rs61, N61q, Ob61⟩ := hQ61
  have N61 := Fr.app N60 N61q
  have hZ61 : Z.Warmed39 (s.setVm T61.vm).vm := State.Warmed39.trans hZ hS61.1
  have hown61 : (s.setVm T61.vm).vm.findClass "com/example/hongdae/hongdae/sale/WaitingRoom$Change" = some m.cls := (hS61.1.alike.findClass _ _).trans hown
  refine own_by (fun _ k => st61.trans k) ?_
  have O61 := own_ext O60 Ob61
  have base_61 := base_60.ext Ob61
  have ch_61 := ch_60.ext Ob61
  have iv1_61 := iv1_60.ext Ob61
  have iv2_61 := iv2_60.ext Ob61
  have iv3_61 := iv3_60.ext Ob61
  have iv4_61 := iv4_60.ext Ob61
  have nx_61 := own_ext nx_60 Ob61
  have nE_61 := nE_60.ext Ob61
  have n_admitPerTick_61 := n_admitPerTick_60.ext Ob61
  have n_tickSeconds_61 := n_tickSeconds_60.ext Ob61
  have n_maxActive_61 := n_maxActive_60.ext Ob61
  have n_activeSeconds_61 := n_activeSeconds_60.ext Ob61
  have Ed1_61 := Ee60.ext Ob61
  have Fd1_61 := Ff60.ext Ob61
  obtain ⟨Ex61, Fx61⟩ := own_pick iv1_61 rs61 Ed1_61 Fd1_61
  show own_End p e below _ (T61.setTop (mkF m 30 #[.val (.ref c1), .val (.ref ba), .val (.ref ba)] [(.ref x1), (.ref b57), (.ref b57)]))
  obtain ⟨T62, X62, e62, st62⟩ := castY X61 hx hZ61 hown61 (hw _ (List.mem_of_getElem? (i := 86) rfl)) rfl (Ins.self Ex61) (g := (mkF m 30 #[.val (.ref c1), .val (.ref ba), .val (.ref ba)] [(.ref x1), (.ref b57), (.ref b57)])) rfl rfl (hb hby own_d_prog_18_method_2_30)
  refine own_by st62 ?_
  show own_End p e below _ (T62.setTop (mkF m 33 #[.val (.ref c1), .val (.ref ba), .val (.ref ba)] [(.ref x1), (.ref b57), (.ref b57)]))
  obtain ⟨cq63, kq63, q63a, q63b, q63c⟩ := isOf hZ61 e62 Ex61
  obtain ⟨_, _, ⟨T63, L63, k63, n63⟩, -, X63, ⟨Lc63, hQ63, l63, y63, z63⟩, st63⟩ := X62.virtualBack hx (y := (⟨"java/lang/Integer", "intValue", "()I"⟩ : MethodName)) (z := (⟨"java/lang/Integer", "intValue", "()I"⟩ : MethodName)) hown61 (mvT hZ61 (hw _ (List.mem_of_getElem? (i := 87) rfl))) (mvT hZ61 (hw _ (List.mem_of_getElem? (i := 88) rfl))) (notFace_of_selects (args := #[]) (mvT hZ61 (hw _ (List.mem_of_getElem? (i := 90) rfl)))) (mvT hZ61 (hw _ (List.mem_of_getElem? (i := 90) rfl))) (mvT hZ61 (hw _ (List.mem_of_getElem? (i := 89) rfl))) (by decide) (own_back (W := 2) (own_ival l Z a0 hw [] x1 (own_sel b1 g1 k1) T61.heap n0 Fx61) hZ61 (hw _ (List.mem_of_getElem? (i := 91) rfl)) (hw _ (List.mem_of_getElem? (i := 24) rfl)) (by decide) (by decide)) q63a q63c (g := (mkF m 33 #[.val (.ref c1), .val (.ref ba), .val (.ref ba)] [(.ref x1), (.ref b57), (.ref b57)])) rfl (by rw [hml]; rfl) (Steps.refl _) (argsL := []) (rest := [(.ref b57), (.ref b57)]) (lenOf own_pd3 rfl) rfl (by show 2 * 0 + _ ≤ _; exact Nat.le_of_eq rfl) (hb hby own_d_prog_18_method_2_33) (fun _ _ => ⟨rfl, e62, (by decide : 4 + 0 ≤ _), (by decide : 49 + 0 ≤ _)⟩)
  dsimp only [Pt.U, Pt.locs, Pt.cells, Pt.slots] at X63 l63 y63 z63 st63 hQ63
  subst l63 y63 z63
  obtain ⟨rfl, N63q, e63⟩ := hQ63
  have N63 := Fr.app N61 N63q
  refine own_by (fun _ k => st63.trans k) ?_
  show own_End p e below _ (T63.setTop (mkF m 36 #[.val (.ref c1), .val (.ref ba), .val (.ref ba)] [(.int (own_sel b1 g1 k1)), (.ref b57), (.ref b57)]))
  refine own_by (fun _ k => XS.aloadN X63.here hx rfl (hb hby own_d_prog_18_method_2_36) rfl rfl k) ?_
  show own_End p e below _ (T63.setTop (mkF m 37 #[.val (.ref c1), .val (.ref ba), .val (.ref ba)] [(.ref c1), (.int (own_sel b1 g1 k1)), (.ref b57), (.ref b57)]))
  obtain ⟨T64, X64, e64, st64⟩ := getF X63 hx hZ61 hown61 (host := "") (Or.inl (hw _ (List.mem_of_getElem? (i := 38) rfl))) Via.refl e63 ch_61.2.2.1 (g := (mkF m 37 #[.val (.ref c1), .val (.ref ba), .val (.ref ba)] [(.ref c1), (.int (own_sel b1 g1 k1)), (.ref b57), (.ref b57)])) rfl rfl (hb hby own_d_prog_18_method_2_37)
  refine own_by st64 ?_
  show own_End p e below _ (T64.setTop (mkF m 40 #[.val (.ref c1), .val (.ref ba), .val (.ref ba)] [v2, (.int (own_sel b1 g1 k1)), (.ref b57), (.ref b57)]))
  refine own_by (fun _ k => XS.aloadN X64.here hx rfl (hb hby own_d_prog_18_method_2_40) rfl rfl k) ?_
  show own_End p e below _ (T64.setTop (mkF m 41 #[.val (.ref c1), .val (.ref ba), .val (.ref ba)] [(.ref ba), v2, (.int (own_sel b1 g1 k1)), (.ref b57), (.ref b57)]))
  obtain ⟨cq65, kq65, q65a, q65b, q65c⟩ := isOf hZ61 e64 base_61.1
  obtain ⟨_, _, ⟨T65, L65, k65, n65⟩, -, X65, ⟨Lc65, hQ65, l65, y65, z65⟩, st65⟩ := X64.virtualBack hx (y := (⟨"com/example/hongdae/hongdae/sale/WaitingRoom", "tickSeconds", "()I"⟩ : MethodName)) (z := (⟨"com/example/hongdae/hongdae/sale/WaitingRoom", "tickSeconds", "()I"⟩ : MethodName)) hown61 (mvT hZ61 (hw _ (List.mem_of_getElem? (i := 92) rfl))) (mvT hZ61 (hw _ (List.mem_of_getElem? (i := 93) rfl))) (notFace_of_selects (args := #[]) (mvT hZ61 (hw _ (List.mem_of_getElem? (i := 95) rfl)))) (mvT hZ61 (hw _ (List.mem_of_getElem? (i := 95) rfl))) (mvT hZ61 (hw _ (List.mem_of_getElem? (i := 94) rfl))) (by decide) (own_back (W := 4) (own_get2 l Z a0 hw [] ba k2 T61.heap n0 base_61.2.2.1) hZ61 (hw _ (List.mem_of_getElem? (i := 96) rfl)) (hw _ (List.mem_of_getElem? (i := 2) rfl)) (by decide) (by decide)) q65a q65c (g := (mkF m 41 #[.val (.ref c1), .val (.ref ba), .val (.ref ba)] [(.ref ba), v2, (.int (own_sel b1 g1 k1)), (.ref b57), (.ref b57)])) rfl (by rw [hml]; rfl) (Steps.refl _) (argsL := []) (rest := [v2, (.int (own_sel b1 g1 k1)), (.ref b57), (.ref b57)]) (lenOf own_pd3 rfl) rfl (by show 2 * 0 + (v2.category + _) ≤ _; rw [iv2.rf.cat]; exact Nat.le_of_eq rfl) (hb hby own_d_prog_18_method_2_41) (fun _ _ => ⟨rfl, e64, (by decide : 4 + 0 ≤ _), (by decide : 49 + 0 ≤ _)⟩)
  dsimp only [Pt.U, Pt.locs, Pt.cells, Pt.slots] at X65 l65 y65 z65 st65 hQ65
  subst l65 y65 z65
  obtain ⟨rfl, N65q, e65⟩ := hQ65
  have N65 := Fr.app N63 N65q
  refine own_by (fun _ k => st65.trans k) ?_
  show own_End p e below _ (T65.setTop (mkF m 44 #[.val (.ref c1), .val (.ref ba), .val (.ref ba)] [(.int k2), v2, (.int (own_sel b1 g1 k1)), (.ref b57), (.ref b57)]))
  obtain ⟨_, _, ⟨T66, L66, k66, n66⟩, -, X66, ⟨Lc66, hQ66, l66, y66, z66⟩, st66⟩ := Jvm.LawKit.callS X65 hx (y := (⟨"java/lang/Integer", "valueOf", "(I)Ljava/lang/Integer;"⟩ : MethodName)) hown61 (mvT hZ61 (hw _ (List.mem_of_getElem? (i := 55) rfl))) (mvT hZ61 (hw _ (List.mem_of_getElem? (i := 23) rfl))) (mvT hZ61 (hw _ (List.mem_of_getElem? (i := 24) rfl))) (mvT hZ61 (hw _ (List.mem_of_getElem? (i := 25) rfl))) (by decide) (own_back (W := 4) (own_vof l Z a0 hw [] k2 T61.heap n0 Z0 O61 hC) hZ61 (hw _ (List.mem_of_getElem? (i := 25) rfl)) (hw _ (List.mem_of_getElem? (i := 24) rfl)) (by decide) (by decide)) (g := (mkF m 44 #[.val (.ref c1), .val (.ref ba), .val (.ref ba)] [(.int k2), v2, (.int (own_sel b1 g1 k1)), (.ref b57), (.ref b57)])) rfl (by rw [hml]; rfl) (argsL := [(.int k2)]) (rest := [v2, (.int (own_sel b1 g1 k1)), (.ref b57), (.ref b57)]) (lenOf own_pd4 rfl) rfl (by show 2 * 0 + (v2.category + _) ≤ _; rw [iv2.rf.cat]; exact Nat.le_of_eq rfl) (hb hby own_d_prog_18_method_2_44) (fun _ _ => ⟨rfl, e65, (by decide : 4 + 1 ≤ _), (by decide : 49 + 1 ≤ _)⟩)
  dsimp only [Pt.U, Pt.locs, Pt.cells, Pt.slots] at X66 l66 y66 z66 st66 hQ66
  subst l66 y66 z66
  obtain ⟨d2, rfl, N66q, Ob66, Ee66, Ff66⟩ := hQ66
  have N66 := Fr.app N65 N66q
  refine own_by st66 ?_
  have O66 := own_ext O61 Ob66
  have base_66 := base_61.ext Ob66
  have ch_66 := ch_61.ext Ob66
  have iv1_66 := iv1_61.ext Ob66
  have iv2_66 := iv2_61.ext Ob66
  have iv3_66 := iv3_61.ext Ob66
  have iv4_66 := iv4_61.ext Ob66
  have nx_66 := own_ext nx_61 Ob66
  have nE_66 := nE_61.ext Ob66
  have n_admitPerTick_66 := n_admitPerTick_61.ext Ob66
  have n_tickSeconds_66 := n_tickSeconds_61.ext Ob66
  have n_maxActive_66 := n_maxActive_61.ext Ob66
  have n_activeSeconds_66 := n_activeSeconds_61.ext Ob66
  have Ed1_66 := Ed1_61.ext Ob66
  have Fd1_66 := Fd1_61.ext Ob66
  have Ex1_66 := Ex61.ext Ob66
  have Fx1_66 := Fx61.ext Ob66
  show own_End p e below _ (T66.setTop (mkF m 47 #[.val (.ref c1), .val (.ref ba), .val (.ref ba)] [(.ref d2), v2, (.int (own_sel b1 g1 k1)), (.ref b57), (.ref b57)]))
  obtain ⟨_, _, ⟨T67, L67, k67, n67⟩, -, X67, hS67, gr67, ⟨Lc67, hQ67, l67, y67, z67⟩, st67⟩ := callSS X66 hx (y := (⟨"java/util/Objects", "requireNonNullElse", "(Ljava/lang/Object;Ljava/lang/Object;)Ljava/lang/Object;"⟩ : MethodName)) hown61 (mvT hZ61 (hw _ (List.mem_of_getElem? (i := 71) rfl))) (mvT hZ61 (hw _ (List.mem_of_getElem? (i := 72) rfl))) (mvT hZ61 (hw _ (List.mem_of_getElem? (i := 73) rfl))) (mvT hZ61 (hw _ (List.mem_of_getElem? (i := 74) rfl))) (by decide) (own_backS (W := 3) (own_rne l Z a0 hw [] v2 d2 T66.heap n0 iv2_66.rf) hZ61 (hw _ (List.mem_of_getElem? (i := 74) rfl)) (hw _ (List.mem_of_getElem? (i := 73) rfl)) (by decide) (by decide)) (g := (mkF m 47 #[.val (.ref c1), .val (.ref ba), .val (.ref ba)] [(.ref d2), v2, (.int (own_sel b1 g1 k1)), (.ref b57), (.ref b57)])) rfl (by rw [hml]; rfl) (argsL := [v2, (.ref d2)]) (rest := [(.int (own_sel b1 g1 k1)), (.ref b57), (.ref b57)]) (lenOf own_pd5 rfl) rfl (by show 2 * 0 + _ ≤ _; exact Nat.le_of_eq rfl) (hb hby own_d_prog_18_method_2_47) (fun _ _ => ⟨rfl, rfl, (by decide : 5 + 2 ≤ _), (by decide : 50 + 44 ≤ _)⟩)
  dsimp only [Pt.U, Pt.locs, Pt.cells, Pt.slots] at X67 l67 y67 z67 st67 hQ67 hS67 gr67
  subst l67 y67 z67
  obtain ⟨x2, rfl, rs67, N67q, Ob67⟩ := hQ67
  have N67 := Fr.app N66 N67q
  obtain ⟨X67, hS67, hZ67, hown67⟩ := rebS hS61 (show _ ≤ T66.heap.size from (Nat.le_trans (Nat.le_refl _) Ob66.1)) X67 hS67 gr67 hZ61 hown61
  refine own_by (fun _ k => st67.trans k) ?_
  have O67 := own_ext O66 Ob67
  have base_67 := base_66.ext Ob67
  have ch_67 := ch_66.ext Ob67
  have iv1_67 := iv1_66.ext Ob67
  have iv2_67 := iv2_66.ext Ob67
  have iv3_67 := iv3_66.ext Ob67
  have iv4_67 := iv4_66.ext Ob67
  have nx_67 := own_ext nx_66 Ob67
  have nE_67 := nE_66.ext Ob67
  have n_admitPerTick_67 := n_admitPerTick_66.ext Ob67
  have n_tickSeconds_67 := n_tickSeconds_66.ext Ob67
  have n_maxActive_67 := n_maxActive_66.ext Ob67
  have n_activeSeconds_67 := n_activeSeconds_66.ext Ob67
  have Ed1_67 := Ed1_66.ext Ob67
  have Fd1_67 := Fd1_66.ext Ob67
  have Ex1_67 := Ex1_66.ext Ob67
  have Fx1_67 := Fx1_66.ext Ob67
  have Ed2_67 := Ee66.ext Ob67
  have Fd2_67 := Ff66.ext Ob67
  obtain ⟨Ex67, Fx67⟩ := own_pick iv2_67 rs67 Ed2_67 Fd2_67
  show own_End p e below _ (T67.setTop (mkF m 50 #[.val (.ref c1), .val (.ref ba), .val (.ref ba)] [(.ref x2), (.int (own_sel b1 g1 k1)), (.ref b57), (.ref b57)]))
  obtain ⟨T68, X68, e68, st68⟩ := castY X67 hx hZ67 hown67 (hw _ (List.mem_of_getElem? (i := 86) rfl)) rfl (Ins.self Ex67) (g := (mkF m 50 #[.val (.ref c1), .val (.ref ba), .val (.ref ba)] [(.ref x2), (.int (own_sel b1 g1 k1)), (.ref b57), (.ref b57)])) rfl rfl (hb hby own_d_prog_18_method_2_50)
  refine own_by st68 ?_
  show own_End p e below _ (T68.setTop (mkF m 53 #[.val (.ref c1), .val (.ref ba), .val (.ref ba)] [(.ref x2), (.int (own_sel b1 g1 k1)), (.ref b57), (.ref b57)]))
  obtain ⟨cq69, kq69, q69a, q69b, q69c⟩ := isOf hZ67 e68 Ex67
  obtain ⟨_, _, ⟨T69, L69, k69, n69⟩, -, X69, ⟨Lc69, hQ69, l69, y69, z69⟩, st69⟩ := X68.virtualBack hx (y := (⟨"java/lang/Integer", "intValue", "()I"⟩ : MethodName)) (z := (⟨"java/lang/Integer", "intValue", "()I"⟩ : MethodName)) hown67 (mvT hZ67 (hw _ (List.mem_of_getElem? (i := 87) rfl))) (mvT hZ67 (hw _ (List.mem_of_getElem? (i := 88) rfl))) (notFace_of_selects (args := #[]) (mvT hZ67 (hw _ (List.mem_of_getElem? (i := 90) rfl)))) (mvT hZ67 (hw _ (List.mem_of_getElem? (i := 90) rfl))) (mvT hZ67 (hw _ (List.mem_of_getElem? (i := 89) rfl))) (by decide) (own_back (W := 3) (own_ival l Z a0 hw [] x2 (own_sel b2 g2 k2) T67.heap n0 Fx67) hZ67 (hw _ (List.mem_of_getElem? (i := 91) rfl)) (hw _ (List.mem_of_getElem? (i := 24) rfl)) (by decide) (by decide)) q69a q69c (g := (mkF m 53 #[.val (.ref c1), .val (.ref ba), .val (.ref ba)] [(.ref x2), (.int (own_sel b1 g1 k1)), (.ref b57), (.ref b57)])) rfl (by rw [hml]; rfl) (Steps.refl _) (argsL := []) (rest := [(.int (own_sel b1 g1 k1)), (.ref b57), (.ref b57)]) (lenOf own_pd3 rfl) rfl (by show 2 * 0 + _ ≤ _; exact Nat.le_of_eq rfl) (hb hby own_d_prog_18_method_2_53) (fun _ _ => ⟨rfl, e68, (by decide : 7 + 0 ≤ _), (by decide : 94 + 0 ≤ _)⟩)
  dsimp only [Pt.U, Pt.locs, Pt.cells, Pt.slots] at X69 l69 y69 z69 st69 hQ69
  subst l69 y69 z69
  obtain ⟨rfl, N69q, e69⟩ := hQ69
  have N69 := Fr.app N67 N69q
  refine own_by (fun _ k => st69.trans k) ?_
  show own_End p e below _ (T69.setTop (mkF m 56 #[.val (.ref c1), .val (.ref ba), .val (.ref ba)] [(.int (own_sel b2 g2 k2)), (.int (own_sel b1 g1 k1)), (.ref b57), (.ref b57)]))
  refine own_by (fun _ k => XS.aloadN X69.here hx rfl (hb hby own_d_prog_18_method_2_56) rfl rfl k) ?_
  show own_End p e below _ (T69.setTop (mkF m 57 #[.val (.ref c1), .val (.ref ba), .val (.ref ba)] [(.ref c1), (.int (own_sel b2 g2 k2)), (.int (own_sel b1 g1 k1)), (.ref b57), (.ref b57)]))
  obtain ⟨T70, X70, e70, st70⟩ := getF X69 hx hZ67 hown67 (host := "") (Or.inl (hw _ (List.mem_of_getElem? (i := 40) rfl))) Via.refl e69 ch_67.2.2.2.1 (g := (mkF m 57 #[.val (.ref c1), .val (.ref ba), .val (.ref ba)] [(.ref c1), (.int (own_sel b2 g2 k2)), (.int (own_sel b1 g1 k1)), (.ref b57), (.ref b57)])) rfl rfl (hb hby own_d_prog_18_method_2_57)
  refine own_by st70 ?_
  show own_End p e below _ (T70.setTop (mkF m 60 #[.val (.ref c1), .val (.ref ba), .val (.ref ba)] [v3, (.int (own_sel b2 g2 k2)), (.int (own_sel b1 g1 k1)), (.ref b57), (.ref b57)]))
  refine own_by (fun _ k => XS.aloadN X70.here hx rfl (hb hby own_d_prog_18_method_2_60) rfl rfl k) ?_
  show own_End p e below _ (T70.setTop (mkF m 61 #[.val (.ref c1), .val (.ref ba), .val (.ref ba)] [(.ref ba), v3, (.int (own_sel b2 g2 k2)), (.int (own_sel b1 g1 k1)), (.ref b57), (.ref b57)]))
  obtain ⟨cq71, kq71, q71a, q71b, q71c⟩ := isOf hZ67 e70 base_67.1
  obtain ⟨_, _, ⟨T71, L71, k71, n71⟩, -, X71, ⟨Lc71, hQ71, l71, y71, z71⟩, st71⟩ := X70.virtualBack hx (y := (⟨"com/example/hongdae/hongdae/sale/WaitingRoom", "maxActive", "()I"⟩ : MethodName)) (z := (⟨"com/example/hongdae/hongdae/sale/WaitingRoom", "maxActive", "()I"⟩ : MethodName)) hown67 (mvT hZ67 (hw _ (List.mem_of_getElem? (i := 97) rfl))) (mvT hZ67 (hw _ (List.mem_of_getElem? (i := 98) rfl))) (notFace_of_selects (args := #[]) (mvT hZ67 (hw _ (List.mem_of_getElem? (i := 100) rfl)))) (mvT hZ67 (hw _ (List.mem_of_getElem? (i := 100) rfl))) (mvT hZ67 (hw _ (List.mem_of_getElem? (i := 99) rfl))) (by decide) (own_back (W := 5) (own_get3 l Z a0 hw [] ba k3 T67.heap n0 base_67.2.2.2.1) hZ67 (hw _ (List.mem_of_getElem? (i := 101) rfl)) (hw _ (List.mem_of_getElem? (i := 2) rfl)) (by decide) (by decide)) q71a q71c (g := (mkF m 61 #[.val (.ref c1), .val (.ref ba), .val (.ref ba)] [(.ref ba), v3, (.int (own_sel b2 g2 k2)), (.int (own_sel b1 g1 k1)), (.ref b57), (.ref b57)])) rfl (by rw [hml]; rfl) (Steps.refl _) (argsL := []) (rest := [v3, (.int (own_sel b2 g2 k2)), (.int (own_sel b1 g1 k1)), (.ref b57), (.ref b57)]) (lenOf own_pd3 rfl) rfl (by show 2 * 0 + (v3.category + _) ≤ _; rw [iv3.rf.cat]; exact Nat.le_of_eq rfl) (hb hby own_d_prog_18_method_2_61) (fun _ _ => ⟨rfl, e70, (by decide : 7 + 0 ≤ _), (by decide : 94 + 0 ≤ _)⟩)
  dsimp only [Pt.U, Pt.locs, Pt.cells, Pt.slots] at X71 l71 y71 z71 st71 hQ71
  subst l71 y71 z71
  obtain ⟨rfl, N71q, e71⟩ := hQ71
  have N71 := Fr.app N69 N71q
  refine own_by (fun _ k => st71.trans k) ?_
  show own_End p e below _ (T71.setTop (mkF m 64 #[.val (.ref c1), .val (.ref ba), .val (.ref ba)] [(.int k3), v3, (.int (own_sel b2 g2 k2)), (.int (own_sel b1 g1 k1)), (.ref b57), (.ref b57)]))
  obtain ⟨_, _, ⟨T72, L72, k72, n72⟩, -, X72, ⟨Lc72, hQ72, l72, y72, z72⟩, st72⟩ := Jvm.LawKit.callS X71 hx (y := (⟨"java/lang/Integer", "valueOf", "(I)Ljava/lang/Integer;"⟩ : MethodName)) hown67 (mvT hZ67 (hw _ (List.mem_of_getElem? (i := 55) rfl))) (mvT hZ67 (hw _ (List.mem_of_getElem? (i := 23) rfl))) (mvT hZ67 (hw _ (List.mem_of_getElem? (i := 24) rfl))) (mvT hZ67 (hw _ (List.mem_of_getElem? (i := 25) rfl))) (by decide) (own_back (W := 5) (own_vof l Z a0 hw [] k3 T67.heap n0 Z0 O67 hC) hZ67 (hw _ (List.mem_of_getElem? (i := 25) rfl)) (hw _ (List.mem_of_getElem? (i := 24) rfl)) (by decide) (by decide)) (g := (mkF m 64 #[.val (.ref c1), .val (.ref ba), .val (.ref ba)] [(.int k3), v3, (.int (own_sel b2 g2 k2)), (.int (own_sel b1 g1 k1)), (.ref b57), (.ref b57)])) rfl (by rw [hml]; rfl) (argsL := [(.int k3)]) (rest := [v3, (.int (own_sel b2 g2 k2)), (.int (own_sel b1 g1 k1)), (.ref b57), (.ref b57)]) (lenOf own_pd4 rfl) rfl (by show 2 * 0 + (v3.category + _) ≤ _; rw [iv3.rf.cat]; exact Nat.le_of_eq rfl) (hb hby own_d_prog_18_method_2_64) (fun _ _ => ⟨rfl, e71, (by decide : 7 + 1 ≤ _), (by decide : 94 + 1 ≤ _)⟩)
  dsimp only [Pt.U, Pt.locs, Pt.cells, Pt.slots] at X72 l72 y72 z72 st72 hQ72
  subst l72 y72 z72
  obtain ⟨d3, rfl, N72q, Ob72, Ee72, Ff72⟩ := hQ72
  have N72 := Fr.app N71 N72q
  refine own_by st72 ?_
  have O72 := own_ext O67 Ob72
  have base_72 := base_67.ext Ob72
  have ch_72 := ch_67.ext Ob72
  have iv1_72 := iv1_67.ext Ob72
  have iv2_72 := iv2_67.ext Ob72
  have iv3_72 := iv3_67.ext Ob72
  have iv4_72 := iv4_67.ext Ob72
  have nx_72 := own_ext nx_67 Ob72
  have nE_72 := nE_67.ext Ob72
  have n_admitPerTick_72 := n_admitPerTick_67.ext Ob72
  have n_tickSeconds_72 := n_tickSeconds_67.ext Ob72
  have n_maxActive_72 := n_maxActive_67.ext Ob72
  have n_activeSeconds_72 := n_activeSeconds_67.ext Ob72
  have Ed1_72 := Ed1_67.ext Ob72
  have Fd1_72 := Fd1_67.ext Ob72
  have Ex1_72 := Ex1_67.ext Ob72
  have Fx1_72 := Fx1_67.ext Ob72
  have Ed2_72 := Ed2_67.ext Ob72
  have Fd2_72 := Fd2_67.ext Ob72
  have Ex2_72 := Ex67.ext Ob72
  have Fx2_72 := Fx67.ext Ob72
  show own_End p e below _ (T72.setTop (mkF m 67 #[.val (.ref c1), .val (.ref ba), .val (.ref ba)] [(.ref d3), v3, (.int (own_sel b2 g2 k2)), (.int (own_sel b1 g1 k1)), (.ref b57), (.ref b57)]))
  obtain ⟨_, _, ⟨T73, L73, k73, n73⟩, -, X73, hS73, gr73, ⟨Lc73, hQ73, l73, y73, z73⟩, st73⟩ := callSS X72 hx (y := (⟨"java/util/Objects", "requireNonNullElse", "(Ljava/lang/Object;Ljava/lang/Object;)Ljava/lang/Object;"⟩ : MethodName)) hown67 (mvT hZ67 (hw _ (List.mem_of_getElem? (i := 71) rfl))) (mvT hZ67 (hw _ (List.mem_of_getElem? (i := 72) rfl))) (mvT hZ67 (hw _ (List.mem_of_getElem? (i := 73) rfl))) (mvT hZ67 (hw _ (List.mem_of_getElem? (i := 74) rfl))) (by decide) (own_backS (W := 4) (own_rne l Z a0 hw [] v3 d3 T72.heap n0 iv3_72.rf) hZ67 (hw _ (List.mem_of_getElem? (i := 74) rfl)) (hw _ (List.mem_of_getElem? (i := 73) rfl)) (by decide) (by decide)) (g := (mkF m 67 #[.val (.ref c1), .val (.ref ba), .val (.ref ba)] [(.ref d3), v3, (.int (own_sel b2 g2 k2)), (.int (own_sel b1 g1 k1)), (.ref b57), (.ref b57)])) rfl (by rw [hml]; rfl) (argsL := [v3, (.ref d3)]) (rest := [(.int (own_sel b2 g2 k2)), (.int (own_sel b1 g1 k1)), (.ref b57), (.ref b57)]) (lenOf own_pd5 rfl) rfl (by show 2 * 0 + _ ≤ _; exact Nat.le_of_eq rfl) (hb hby own_d_prog_18_method_2_67) (fun _ _ => ⟨rfl, rfl, (by decide : 8 + 2 ≤ _), (by decide : 95 + 44 ≤ _)⟩)
  dsimp only [Pt.U, Pt.locs, Pt.cells, Pt.slots] at X73 l73 y73 z73 st73 hQ73 hS73 gr73
  subst l73 y73 z73
  obtain ⟨x3, rfl, rs73, N73q, Ob73⟩ := hQ73
  have N73 := Fr.app N72 N73q
  obtain ⟨X73, hS73, hZ73, hown73⟩ := rebS hS67 (show _ ≤ T72.heap.size from (Nat.le_trans (Nat.le_refl _) Ob72.1)) X73 hS73 gr73 hZ67 hown67
  refine own_by (fun _ k => st73.trans k) ?_
  have O73 := own_ext O72 Ob73
  have base_73 := base_72.ext Ob73
  have ch_73 := ch_72.ext Ob73
  have iv1_73 := iv1_72.ext Ob73
  have iv2_73 := iv2_72.ext Ob73
  have iv3_73 := iv3_72.ext Ob73
  have iv4_73 := iv4_72.ext Ob73
  have nx_73 := own_ext nx_72 Ob73
  have nE_73 := nE_72.ext Ob73
  have n_admitPerTick_73 := n_admitPerTick_72.ext Ob73
  have n_tickSeconds_73 := n_tickSeconds_72.ext Ob73
  have n_maxActive_73 := n_maxActive_72.ext Ob73
  have n_activeSeconds_73 := n_activeSeconds_72.ext Ob73
  have Ed1_73 := Ed1_72.ext Ob73
  have Fd1_73 := Fd1_72.ext Ob73
  have Ex1_73 := Ex1_72.ext Ob73
  have Fx1_73 := Fx1_72.ext Ob73
  have Ed2_73 := Ed2_72.ext Ob73
  have Fd2_73 := Fd2_72.ext Ob73
  have Ex2_73 := Ex2_72.ext Ob73
  have Fx2_73 := Fx2_72.ext Ob73
  have Ed3_73 := Ee72.ext Ob73
  have Fd3_73 := Ff72.ext Ob73
  obtain ⟨Ex73, Fx73⟩ := own_pick iv3_73 rs73 Ed3_73 Fd3_73
  show own_End p e below _ (T73.setTop (mkF m 70 #[.val (.ref c1), .val (.ref ba), .val (.ref ba)] [(.ref x3), (.int (own_sel b2 g2 k2)), (.int (own_sel b1 g1 k1)), (.ref b57), (.ref b57)]))
  obtain ⟨T74, X74, e74, st74⟩ := castY X73 hx hZ73 hown73 (hw _ (List.mem_of_getElem? (i := 86) rfl)) rfl (Ins.self Ex73) (g := (mkF m 70 #[.val (.ref c1), .val (.ref ba), .val (.ref ba)] [(.ref x3), (.int (own_sel b2 g2 k2)), (.int (own_sel b1 g1 k1)), (.ref b57), (.ref b57)])) rfl rfl (hb hby own_d_prog_18_method_2_70)
  refine own_by st74 ?_
  show own_End p e below _ (T74.setTop (mkF m 73 #[.val (.ref c1), .val (.ref ba), .val (.ref ba)] [(.ref x3), (.int (own_sel b2 g2 k2)), (.int (own_sel b1 g1 k1)), (.ref b57), (.ref b57)]))
  obtain ⟨cq75, kq75, q75a, q75b, q75c⟩ := isOf hZ73 e74 Ex73
  obtain ⟨_, _, ⟨T75, L75, k75, n75⟩, -, X75, ⟨Lc75, hQ75, l75, y75, z75⟩, st75⟩ := X74.virtualBack hx (y := (⟨"java/lang/Integer", "intValue", "()I"⟩ : MethodName)) (z := (⟨"java/lang/Integer", "intValue", "()I"⟩ : MethodName)) hown73 (mvT hZ73 (hw _ (List.mem_of_getElem? (i := 87) rfl))) (mvT hZ73 (hw _ (List.mem_of_getElem? (i := 88) rfl))) (notFace_of_selects (args := #[]) (mvT hZ73 (hw _ (List.mem_of_getElem? (i := 90) rfl)))) (mvT hZ73 (hw _ (List.mem_of_getElem? (i := 90) rfl))) (mvT hZ73 (hw _ (List.mem_of_getElem? (i := 89) rfl))) (by decide) (own_back (W := 4) (own_ival l Z a0 hw [] x3 (own_sel b3 g3 k3) T73.heap n0 Fx73) hZ73 (hw _ (List.mem_of_getElem? (i := 91) rfl)) (hw _ (List.mem_of_getElem? (i := 24) rfl)) (by decide) (by decide)) q75a q75c (g := (mkF m 73 #[.val (.ref c1), .val (.ref ba), .val (.ref ba)] [(.ref x3), (.int (own_sel b2 g2 k2)), (.int (own_sel b1 g1 k1)), (.ref b57), (.ref b57)])) rfl (by rw [hml]; rfl) (Steps.refl _) (argsL := []) (rest := [(.int (own_sel b2 g2 k2)), (.int (own_sel b1 g1 k1)), (.ref b57), (.ref b57)]) (lenOf own_pd3 rfl) rfl (by show 2 * 0 + _ ≤ _; exact Nat.le_of_eq rfl) (hb hby own_d_prog_18_method_2_73) (fun _ _ => ⟨rfl, e74, (by decide : 10 + 0 ≤ _), (by decide : 139 + 0 ≤ _)⟩)
  dsimp only [Pt.U, Pt.locs, Pt.cells, Pt.slots] at X75 l75 y75 z75 st75 hQ75
  subst l75 y75 z75
  obtain ⟨rfl, N75q, e75⟩ := hQ75
  have N75 := Fr.app N73 N75q
  refine own_by (fun _ k => st75.trans k) ?_
  show own_End p e below _ (T75.setTop (mkF m 76 #[.val (.ref c1), .val (.ref ba), .val (.ref ba)] [(.int (own_sel b3 g3 k3)), (.int (own_sel b2 g2 k2)), (.int (own_sel b1 g1 k1)), (.ref b57), (.ref b57)]))
  refine own_by (fun _ k => XS.aloadN X75.here hx rfl (hb hby own_d_prog_18_method_2_76) rfl rfl k) ?_
  show own_End p e below _ (T75.setTop (mkF m 77 #[.val (.ref c1), .val (.ref ba), .val (.ref ba)] [(.ref c1), (.int (own_sel b3 g3 k3)), (.int (own_sel b2 g2 k2)), (.int (own_sel b1 g1 k1)), (.ref b57), (.ref b57)]))
  obtain ⟨T76, X76, e76, st76⟩ := getF X75 hx hZ73 hown73 (host := "") (Or.inl (hw _ (List.mem_of_getElem? (i := 42) rfl))) Via.refl e75 ch_73.2.2.2.2 (g := (mkF m 77 #[.val (.ref c1), .val (.ref ba), .val (.ref ba)] [(.ref c1), (.int (own_sel b3 g3 k3)), (.int (own_sel b2 g2 k2)), (.int (own_sel b1 g1 k1)), (.ref b57), (.ref b57)])) rfl rfl (hb hby own_d_prog_18_method_2_77)
  refine own_by st76 ?_
  show own_End p e below _ (T76.setTop (mkF m 80 #[.val (.ref c1), .val (.ref ba), .val (.ref ba)] [v4, (.int (own_sel b3 g3 k3)), (.int (own_sel b2 g2 k2)), (.int (own_sel b1 g1 k1)), (.ref b57), (.ref b57)]))
  refine own_by (fun _ k => XS.aloadN X76.here hx rfl (hb hby own_d_prog_18_method_2_80) rfl rfl k) ?_
  show own_End p e below _ (T76.setTop (mkF m 81 #[.val (.ref c1), .val (.ref ba), .val (.ref ba)] [(.ref ba), v4, (.int (own_sel b3 g3 k3)), (.int (own_sel b2 g2 k2)), (.int (own_sel b1 g1 k1)), (.ref b57), (.ref b57)]))
  obtain ⟨cq77, kq77, q77a, q77b, q77c⟩ := isOf hZ73 e76 base_73.1
  obtain ⟨_, _, ⟨T77, L77, k77, n77⟩, -, X77, ⟨Lc77, hQ77, l77, y77, z77⟩, st77⟩ := X76.virtualBack hx (y := (⟨"com/example/hongdae/hongdae/sale/WaitingRoom", "activeSeconds", "()I"⟩ : MethodName)) (z := (⟨"com/example/hongdae/hongdae/sale/WaitingRoom", "activeSeconds", "()I"⟩ : MethodName)) hown73 (mvT hZ73 (hw _ (List.mem_of_getElem? (i := 102) rfl))) (mvT hZ73 (hw _ (List.mem_of_getElem? (i := 103) rfl))) (notFace_of_selects (args := #[]) (mvT hZ73 (hw _ (List.mem_of_getElem? (i := 105) rfl)))) (mvT hZ73 (hw _ (List.mem_of_getElem? (i := 105) rfl))) (mvT hZ73 (hw _ (List.mem_of_getElem? (i := 104) rfl))) (by decide) (own_back (W := 6) (own_get4 l Z a0 hw [] ba k4 T73.heap n0 base_73.2.2.2.2) hZ73 (hw _ (List.mem_of_getElem? (i := 106) rfl)) (hw _ (List.mem_of_getElem? (i := 2) rfl)) (by decide) (by decide)) q77a q77c (g := (mkF m 81 #[.val (.ref c1), .val (.ref ba), .val (.ref ba)] [(.ref ba), v4, (.int (own_sel b3 g3 k3)), (.int (own_sel b2 g2 k2)), (.int (own_sel b1 g1 k1)), (.ref b57), (.ref b57)])) rfl (by rw [hml]; rfl) (Steps.refl _) (argsL := []) (rest := [v4, (.int (own_sel b3 g3 k3)), (.int (own_sel b2 g2 k2)), (.int (own_sel b1 g1 k1)), (.ref b57), (.ref b57)]) (lenOf own_pd3 rfl) rfl (by show 2 * 0 + (v4.category + _) ≤ _; rw [iv4.rf.cat]; exact Nat.le_of_eq rfl) (hb hby own_d_prog_18_method_2_81) (fun _ _ => ⟨rfl, e76, (by decide : 10 + 0 ≤ _), (by decide : 139 + 0 ≤ _)⟩)
  dsimp only [Pt.U, Pt.locs, Pt.cells, Pt.slots] at X77 l77 y77 z77 st77 hQ77
  subst l77 y77 z77
  obtain ⟨rfl, N77q, e77⟩ := hQ77
  have N77 := Fr.app N75 N77q
  refine own_by (fun _ k => st77.trans k) ?_
  show own_End p e below _ (T77.setTop (mkF m 84 #[.val (.ref c1), .val (.ref ba), .val (.ref ba)] [(.int k4), v4, (.int (own_sel b3 g3 k3)), (.int (own_sel b2 g2 k2)), (.int (own_sel b1 g1 k1)), (.ref b57), (.ref b57)]))
  obtain ⟨_, _, ⟨T78, L78, k78, n78⟩, -, X78, ⟨Lc78, hQ78, l78, y78, z78⟩, st78⟩ := Jvm.LawKit.callS X77 hx (y := (⟨"java/lang/Integer", "valueOf", "(I)Ljava/lang/Integer;"⟩ : MethodName)) hown73 (mvT hZ73 (hw _ (List.mem_of_getElem? (i := 55) rfl))) (mvT hZ73 (hw _ (List.mem_of_getElem? (i := 23) rfl))) (mvT hZ73 (hw _ (List.mem_of_getElem? (i := 24) rfl))) (mvT hZ73 (hw _ (List.mem_of_getElem? (i := 25) rfl))) (by decide) (own_back (W := 6) (own_vof l Z a0 hw [] k4 T73.heap n0 Z0 O73 hC) hZ73 (hw _ (List.mem_of_getElem? (i := 25) rfl)) (hw _ (List.mem_of_getElem? (i := 24) rfl)) (by decide) (by decide)) (g := (mkF m 84 #[.val (.ref c1), .val (.ref ba), .val (.ref ba)] [(.int k4), v4, (.int (own_sel b3 g3 k3)), (.int (own_sel b2 g2 k2)), (.int (own_sel b1 g1 k1)), (.ref b57), (.ref b57)])) rfl (by rw [hml]; rfl) (argsL := [(.int k4)]) (rest := [v4, (.int (own_sel b3 g3 k3)), (.int (own_sel b2 g2 k2)), (.int (own_sel b1 g1 k1)), (.ref b57), (.ref b57)]) (lenOf own_pd4 rfl) rfl (by show 2 * 0 + (v4.category + _) ≤ _; rw [iv4.rf.cat]; exact Nat.le_of_eq rfl) (hb hby own_d_prog_18_method_2_84) (fun _ _ => ⟨rfl, e77, (by decide : 10 + 1 ≤ _), (by decide : 139 + 1 ≤ _)⟩)
  dsimp only [Pt.U, Pt.locs, Pt.cells, Pt.slots] at X78 l78 y78 z78 st78 hQ78
  subst l78 y78 z78
  obtain ⟨d4, rfl, N78q, Ob78, Ee78, Ff78⟩ := hQ78
  have N78 := Fr.app N77 N78q
  refine own_by st78 ?_
  have O78 := own_ext O73 Ob78
  have base_78 := base_73.ext Ob78
  have ch_78 := ch_73.ext Ob78
  have iv1_78 := iv1_73.ext Ob78
  have iv2_78 := iv2_73.ext Ob78
  have iv3_78 := iv3_73.ext Ob78
  have iv4_78 := iv4_73.ext Ob78
  have nx_78 := own_ext nx_73 Ob78
  have nE_78 := nE_73.ext Ob78
  have n_admitPerTick_78 := n_admitPerTick_73.ext Ob78
  have n_tickSeconds_78 := n_tickSeconds_73.ext Ob78
  have n_maxActive_78 := n_maxActive_73.ext Ob78
  have n_activeSeconds_78 := n_activeSeconds_73.ext Ob78
  have Ed1_78 := Ed1_73.ext Ob78
  have Fd1_78 := Fd1_73.ext Ob78
  have Ex1_78 := Ex1_73.ext Ob78
  have Fx1_78 := Fx1_73.ext Ob78
  have Ed2_78 := Ed2_73.ext Ob78
  have Fd2_78 := Fd2_73.ext Ob78
  have Ex2_78 := Ex2_73.ext Ob78
  have Fx2_78 := Fx2_73.ext Ob78
  have Ed3_78 := Ed3_73.ext Ob78
  have Fd3_78 := Fd3_73.ext Ob78
  have Ex3_78 := Ex73.ext Ob78
  have Fx3_78 := Fx73.ext Ob78
  show own_End p e below _ (T78.setTop (mkF m 87 #[.val (.ref c1), .val (.ref ba), .val (.ref ba)] [(.ref d4), v4, (.int (own_sel b3 g3 k3)), (.int (own_sel b2 g2 k2)), (.int (own_sel b1 g1 k1)), (.ref b57), (.ref b57)]))
  obtain ⟨_, _, ⟨T79, L79, k79, n79⟩, -, X79, hS79, gr79, ⟨Lc79, hQ79, l79, y79, z79⟩, st79⟩ := callSS X78 hx (y := (⟨"java/util/Objects", "requireNonNullElse", "(Ljava/lang/Object;Ljava/lang/Object;)Ljava/lang/Object;"⟩ : MethodName)) hown73 (mvT hZ73 (hw _ (List.mem_of_getElem? (i := 71) rfl))) (mvT hZ73 (hw _ (List.mem_of_getElem? (i := 72) rfl))) (mvT hZ73 (hw _ (List.mem_of_getElem? (i := 73) rfl))) (mvT hZ73 (hw _ (List.mem_of_getElem? (i := 74) rfl))) (by decide) (own_backS (W := 5) (own_rne l Z a0 hw [] v4 d4 T78.heap n0 iv4_78.rf) hZ73 (hw _ (List.mem_of_getElem? (i := 74) rfl)) (hw _ (List.mem_of_getElem? (i := 73) rfl)) (by decide) (by decide)) (g := (mkF m 87 #[.val (.ref c1), .val (.ref ba), .val (.ref ba)] [(.ref d4), v4, (.int (own_sel b3 g3 k3)), (.int (own_sel b2 g2 k2)), (.int (own_sel b1 g1 k1)), (.ref b57), (.ref b57)])) rfl (by rw [hml]; rfl) (argsL := [v4, (.ref d4)]) (rest := [(.int (own_sel b3 g3 k3)), (.int (own_sel b2 g2 k2)), (.int (own_sel b1 g1 k1)), (.ref b57), (.ref b57)]) (lenOf own_pd5 rfl) rfl (by show 2 * 0 + _ ≤ _; exact Nat.le_of_eq rfl) (hb hby own_d_prog_18_method_2_87) (fun _ _ => ⟨rfl, rfl, (by decide : 11 + 2 ≤ _), (by decide : 140 + 44 ≤ _)⟩)
  dsimp only [Pt.U, Pt.locs, Pt.cells, Pt.slots] at X79 l79 y79 z79 st79 hQ79 hS79 gr79
  subst l79 y79 z79
  obtain ⟨x4, rfl, rs79, N79q, Ob79⟩ := hQ79
  have N79 := Fr.app N78 N79q
  obtain ⟨X79, hS79, hZ79, hown79⟩ := rebS hS73 (show _ ≤ T78.heap.size from (Nat.le_trans (Nat.le_refl _) Ob78.1)) X79 hS79 gr79 hZ73 hown73
  refine own_by (fun _ k => st79.trans k) ?_
  have O79 := own_ext O78 Ob79
  have base_79 := base_78.ext Ob79
  have ch_79 := ch_78.ext Ob79
  have iv1_79 := iv1_78.ext Ob79
  have iv2_79 := iv2_78.ext Ob79
  have iv3_79 := iv3_78.ext Ob79
  have iv4_79 := iv4_78.ext Ob79
  have nx_79 := own_ext nx_78 Ob79
  have nE_79 := nE_78.ext Ob79
  have n_admitPerTick_79 := n_admitPerTick_78.ext Ob79
  have n_tickSeconds_79 := n_tickSeconds_78.ext Ob79
  have n_maxActive_79 := n_maxActive_78.ext Ob79
  have n_activeSeconds_79 := n_activeSeconds_78.ext Ob79
  have Ed1_79 := Ed1_78.ext Ob79
  have Fd1_79 := Fd1_78.ext Ob79
  have Ex1_79 := Ex1_78.ext Ob79
  have Fx1_79 := Fx1_78.ext Ob79
  have Ed2_79 := Ed2_78.ext Ob79
  have Fd2_79 := Fd2_78.ext Ob79
  have Ex2_79 := Ex2_78.ext Ob79
  have Fx2_79 := Fx2_78.ext Ob79
  have Ed3_79 := Ed3_78.ext Ob79
  have Fd3_79 := Fd3_78.ext Ob79
  have Ex3_79 := Ex3_78.ext Ob79
  have Fx3_79 := Fx3_78.ext Ob79
  have Ed4_79 := Ee78.ext Ob79
  have Fd4_79 := Ff78.ext Ob79
  obtain ⟨Ex79, Fx79⟩ := own_pick iv4_79 rs79 Ed4_79 Fd4_79
  show own_End p e below _ (T79.setTop (mkF m 90 #[.val (.ref c1), .val (.ref ba), .val (.ref ba)] [(.ref x4), (.int (own_sel b3 g3 k3)), (.int (own_sel b2 g2 k2)), (.int (own_sel b1 g1 k1)), (.ref b57), (.ref b57)]))
  obtain ⟨T80, X80, e80, st80⟩ := castY X79 hx hZ79 hown79 (hw _ (List.mem_of_getElem? (i := 86) rfl)) rfl (Ins.self Ex79) (g := (mkF m 90 #[.val (.ref c1), .val (.ref ba), .val (.ref ba)] [(.ref x4), (.int (own_sel b3 g3 k3)), (.int (own_sel b2 g2 k2)), (.int (own_sel b1 g1 k1)), (.ref b57), (.ref b57)])) rfl rfl (hb hby own_d_prog_18_method_2_90)
  refine own_by st80 ?_
  show own_End p e below _ (T80.setTop (mkF m 93 #[.val (.ref c1), .val (.ref ba), .val (.ref ba)] [(.ref x4), (.int (own_sel b3 g3 k3)), (.int (own_sel b2 g2 k2)), (.int (own_sel b1 g1 k1)), (.ref b57), (.ref b57)]))
  obtain ⟨cq81, kq81, q81a, q81b, q81c⟩ := isOf hZ79 e80 Ex79
  obtain ⟨_, _, ⟨T81, L81, k81, n81⟩, -, X81, ⟨Lc81, hQ81, l81, y81, z81⟩, st81⟩ := X80.virtualBack hx (y := (⟨"java/lang/Integer", "intValue", "()I"⟩ : MethodName)) (z := (⟨"java/lang/Integer", "intValue", "()I"⟩ : MethodName)) hown79 (mvT hZ79 (hw _ (List.mem_of_getElem? (i := 87) rfl))) (mvT hZ79 (hw _ (List.mem_of_getElem? (i := 88) rfl))) (notFace_of_selects (args := #[]) (mvT hZ79 (hw _ (List.mem_of_getElem? (i := 90) rfl)))) (mvT hZ79 (hw _ (List.mem_of_getElem? (i := 90) rfl))) (mvT hZ79 (hw _ (List.mem_of_getElem? (i := 89) rfl))) (by decide) (own_back (W := 5) (own_ival l Z a0 hw [] x4 (own_sel b4 g4 k4) T79.heap n0 Fx79) hZ79 (hw _ (List.mem_of_getElem? (i := 91) rfl)) (hw _ (List.mem_of_getElem? (i := 24) rfl)) (by decide) (by decide)) q81a q81c (g := (mkF m 93 #[.val (.ref c1), .val (.ref ba), .val (.ref ba)] [(.ref x4), (.int (own_sel b3 g3 k3)), (.int (own_sel b2 g2 k2)), (.int (own_sel b1 g1 k1)), (.ref b57), (.ref b57)])) rfl (by rw [hml]; rfl) (Steps.refl _) (argsL := []) (rest := [(.int (own_sel b3 g3 k3)), (.int (own_sel b2 g2 k2)), (.int (own_sel b1 g1 k1)), (.ref b57), (.ref b57)]) (lenOf own_pd3 rfl) rfl (by show 2 * 0 + _ ≤ _; exact Nat.le_of_eq rfl) (hb hby own_d_prog_18_method_2_93) (fun _ _ => ⟨rfl, e80, (by decide : 13 + 0 ≤ _), (by decide : 184 + 0 ≤ _)⟩)
  dsimp only [Pt.U, Pt.locs, Pt.cells, Pt.slots] at X81 l81 y81 z81 st81 hQ81
  subst l81 y81 z81
  obtain ⟨rfl, N81q, e81⟩ := hQ81
  have N81 := Fr.app N79 N81q
  refine own_by (fun _ k => st81.trans k) ?_
  show own_End p e below _ (T81.setTop (mkF m 96 #[.val (.ref c1), .val (.ref ba), .val (.ref ba)] [(.int (own_sel b4 g4 k4)), (.int (own_sel b3 g3 k3)), (.int (own_sel b2 g2 k2)), (.int (own_sel b1 g1 k1)), (.ref b57), (.ref b57)]))
  obtain ⟨_, _, ⟨T82, L82, k82, n82⟩, -, X82, ⟨Lc82, hQ82, l82, y82, z82⟩, st82⟩ := X81.specialBack hx (y := (⟨"com/example/hongdae/hongdae/sale/WaitingRoom", "<init>", "(IIII)V"⟩ : MethodName)) rfl hown79 (mvT hZ79 (hw _ (List.mem_of_getElem? (i := 107) rfl))) (mvT hZ79 (hw _ (List.mem_of_getElem? (i := 4) rfl))) (mvT hZ79 (hw _ (List.mem_of_getElem? (i := 5) rfl))) (by decide) (own_back (W := 1) (own_wri l Z a0 hw [] b57 (own_sel b1 g1 k1) (own_sel b2 g2 k2) (own_sel b3 g3 k3) (own_sel b4 g4 k4) T79.heap n0 h0 nx_79 (Nat.le_of_eq g57.symm) Z0 g_b57 nE_79 n_admitPerTick_79 n_tickSeconds_79 n_maxActive_79 n_activeSeconds_79) hZ79 (hw _ (List.mem_of_getElem? (i := 5) rfl)) (hw _ (List.mem_of_getElem? (i := 2) rfl)) (by decide) (by decide)) (g := (mkF m 96 #[.val (.ref c1), .val (.ref ba), .val (.ref ba)] [(.int (own_sel b4 g4 k4)), (.int (own_sel b3 g3 k3)), (.int (own_sel b2 g2 k2)), (.int (own_sel b1 g1 k1)), (.ref b57), (.ref b57)])) rfl (by rw [hml]; rfl) (Steps.refl _) (a := b57) (argsL := [(.int (own_sel b1 g1 k1)), (.int (own_sel b2 g2 k2)), (.int (own_sel b3 g3 k3)), (.int (own_sel b4 g4 k4))]) (rest := [(.ref b57)]) (lenOf own_pd6 rfl) rfl (by show 2 * 0 + _ ≤ _; exact Nat.le_of_eq rfl) (hb hby own_d_prog_18_method_2_96) (fun _ _ => ⟨rfl, e81, (by decide : 13 + 0 ≤ _), (by decide : 184 + 0 ≤ _)⟩)
  dsimp only [Pt.U, Pt.locs, Pt.cells, Pt.slots] at X82 l82 y82 z82 st82 hQ82
  subst l82 y82 z82
  obtain ⟨rfl, N82q, Ob82, Kp82, Fm82⟩ := hQ82
  have N82 := Fr.app N81 N82q
  refine own_by (fun _ k => st82.trans k) ?_
  show own_End p e below _ (T82.setTop (mkF m 99 #[.val (.ref c1), .val (.ref ba), .val (.ref ba)] [(.ref b57)]))
  obtain ⟨fs, hr, hrun, hended, hW⟩ := X82.leaveW (v := (some (.ref b57))) hS79 (show _ ≤ _ from (Nat.le_trans (Nat.le_refl _) Kp82)) (fun h => by rw [Bd.returns] at h; cases h)
  refine ⟨_, _, retOut X82 hx Bd.returns rfl (Or.inr (Or.inr (Or.inr (Or.inr ⟨rfl, rfl, rfl⟩)))) (hb hby own_d_prog_18_method_2_99) hr, hrun, hended, _, _, rfl, ?_, own_rw hW (by decide) (by decide)⟩
  have hfin : (T82.setFrames fs).heap = T82.heap := rfl
  exact ⟨_, rfl, N82, Fm82⟩
set_option maxRecDepth 65536 in
set_option maxHeartbeats 40000000 in
theorem own_exp0 (l : Launch) (Z : State) (a0 : Array Value) (hw : ∀ d ∈ tables_1, d.before a0 Z = true) (ws : List Jvm.Cond) (b g r d : Int32) (h0 : Heap) (n0 : Nat) :
    own_Met l Z (⟨"com/example/hongdae/hongdae/sale/ChangeApplyToPinLaw", "expect", "(ZIZII)I"⟩ : MethodName) method_3_code 5 (some .int) ws ({ frames := 0, cells := 0, slots := 0, locals := 0 } : Room) #[(.int b), (.int g), (.int (0 : Int32)), (.int r), (.int d)] h0 (fun v h L => v = some (.int (own_sel b g r)) ∧ Fr n0 L ∧ h = h0) := by
  refine MetFree.of_bodySF (plainFor_of_name own_pn6) hisR ?_
  intro p e s m args below meth c s₁ Bd hml0 hP hK
  obtain ⟨rfl, hZ, hh⟩ := hP
  have hx := Bd.exec
  have hby := Bd.bytes
  have hml : c.maxLocals = 5 := hml0
  have hown : s.vm.findClass "com/example/hongdae/hongdae/sale/ChangeApplyToPinLaw" = some m.cls := findClass_of_methodNamed Bd.named
  have hnm := (name_of_methodNamed Bd.named Bd.method).1
  have X0 : Stand p l e ({ frames := 0, cells := 0, slots := 0, locals := 0 } : Room) s m #[(.int b), (.int g), (.int (0 : Int32)), (.int r), (.int d)] below meth c s₁ [] 0 0 := Stand.of_body Bd
  have e0 : s₁.heap = h0 := by rw [← hh, Bd.state]; rfl
  have N0 := Fr.nil n0
  have ef : entryFrame m #[(.int b), (.int g), (.int (0 : Int32)), (.int r), (.int d)] 5 = mkF m 0 #[.val (.int b), .val (.int g), .val (.int (0 : Int32)), .val (.int r), .val (.int d)] [] := by first | (simp [entryFrame, mkF, argsToLocals, Value.category, maxLocals]; done) | rfl
  show own_End p e below _ (s₁.setTop (entryFrame m #[(.int b), (.int g), (.int (0 : Int32)), (.int r), (.int d)] 5))
  refine own_by (fun _ k => castTop ef k) ?_
  show own_End p e below _ (s₁.setTop (mkF m 0 #[.val (.int b), .val (.int g), .val (.int (0 : Int32)), .val (.int r), .val (.int d)] []))
  refine own_by (fun _ k => XS.iloadN X0.here hx rfl (hb hby own_d_method_3_0) rfl k) ?_
  show own_End p e below _ (s₁.setTop (mkF m 1 #[.val (.int b), .val (.int g), .val (.int (0 : Int32)), .val (.int r), .val (.int d)] [(.int b)]))
  rcases Decidable.em (b = (0 : Int32)) with hc1_83 | hc1_83
  · -- 1 True
    refine own_by (fun _ k => XS.ifNo X0.here hx rfl (hb hby own_d_method_3_1) rfl ((if0 _ _).trans (teq hc1_83).2) k) ?_
    show own_End p e below _ (s₁.setTop (mkF m 4 #[.val (.int b), .val (.int g), .val (.int (0 : Int32)), .val (.int r), .val (.int d)] []))
    refine own_by (fun _ k => XS.iloadN X0.here hx rfl (hb hby own_d_method_3_4) rfl k) ?_
    show own_End p e below _ (s₁.setTop (mkF m 5 #[.val (.int b), .val (.int g), .val (.int (0 : Int32)), .val (.int r), .val (.int d)] [(.int g)]))
    obtain ⟨fs, hr, hrun, hended, hW, hsame⟩ := X0.leave (v := (some (.int g))) (fun h => by rw [Bd.returns] at h; cases h)
    refine ⟨_, _, retOut X0 hx Bd.returns rfl (Or.inl ⟨rfl, Or.inl rfl, _, rfl⟩) (hb hby own_d_method_3_5) hr, hrun, hended, _, _, rfl, ?_, ⟨_, rfl⟩, hW, hsame.mono (by decide) (by decide)⟩
    refine ⟨?_, N0, e0⟩
    rw [own_sel, if_pos hc1_83]
  · -- 1 False
    refine own_by (fun _ k => XS.ifYes X0.here hx rfl (pc0 := 1) (pc' := 6) rfl (hb hby own_d_method_3_1) rfl ((if0 _ _).trans (feq hc1_83).2) (by decide) (by decide) k) ?_
    show own_End p e below _ (s₁.setTop (mkF m 6 #[.val (.int b), .val (.int g), .val (.int (0 : Int32)), .val (.int r), .val (.int d)] []))
    refine own_by (fun _ k => XS.iloadN X0.here hx rfl (hb hby own_d_method_3_6) rfl k) ?_
    show own_End p e below _ (s₁.setTop (mkF m 7 #[.val (.int b), .val (.int g), .val (.int (0 : Int32)), .val (.int r), .val (.int d)] [(.int (0 : Int32))]))
    refine own_by (fun _ k => XS.ifYes X0.here hx rfl (pc0 := 7) (pc' := 13) rfl (hb hby own_d_method_3_7) rfl ((if0 _ _).trans (teq (by decide)).1) (by decide) (by decide) k) ?_
    show own_End p e below _ (s₁.setTop (mkF m 13 #[.val (.int b), .val (.int g), .val (.int (0 : Int32)), .val (.int r), .val (.int d)] []))
    refine own_by (fun _ k => XS.iloadN X0.here hx rfl (hb hby own_d_method_3_13) rfl k) ?_
    show own_End p e below _ (s₁.setTop (mkF m 14 #[.val (.int b), .val (.int g), .val (.int (0 : Int32)), .val (.int r), .val (.int d)] [(.int r)]))
    obtain ⟨fs, hr, hrun, hended, hW, hsame⟩ := X0.leave (v := (some (.int r))) (fun h => by rw [Bd.returns] at h; cases h)
    refine ⟨_, _, retOut X0 hx Bd.returns rfl (Or.inl ⟨rfl, Or.inl rfl, _, rfl⟩) (hb hby own_d_method_3_14) hr, hrun, hended, _, _, rfl, ?_, ⟨_, rfl⟩, hW, hsame.mono (by decide) (by decide)⟩
    refine ⟨?_, N0, e0⟩
    rw [own_sel, if_neg hc1_83]
set_option maxRecDepth 65536 in
set_option maxHeartbeats 40000000 in
theorem own_exp1 (l : Launch) (Z : State) (a0 : Array Value) (hw : ∀ d ∈ tables_1, d.before a0 Z = true) (ws : List Jvm.Cond) (b g r d : Int32) (h0 : Heap) (n0 : Nat) :
    own_Met l Z (⟨"com/example/hongdae/hongdae/sale/ChangeApplyToPinLaw", "expect", "(ZIZII)I"⟩ : MethodName) method_3_code 5 (some .int) ws ({ frames := 0, cells := 0, slots := 0, locals := 0 } : Room) #[(.int b), (.int g), (.int (1 : Int32)), (.int r), (.int d)] h0 (fun v h L => v = some (.int (own_sel b g d)) ∧ Fr n0 L ∧ h = h0) := by
  refine MetFree.of_bodySF (plainFor_of_name own_pn6) hisR ?_
  intro p e s m args below meth c s₁ Bd hml0 hP hK
  obtain ⟨rfl, hZ, hh⟩ := hP
  have hx := Bd.exec
  have hby := Bd.bytes
  have hml : c.maxLocals = 5 := hml0
  have hown : s.vm.findClass "com/example/hongdae/hongdae/sale/ChangeApplyToPinLaw" = some m.cls := findClass_of_methodNamed Bd.named
  have hnm := (name_of_methodNamed Bd.named Bd.method).1
  have X0 : Stand p l e ({ frames := 0, cells := 0, slots := 0, locals := 0 } : Room) s m #[(.int b), (.int g), (.int (1 : Int32)), (.int r), (.int d)] below meth c s₁ [] 0 0 := Stand.of_body Bd
  have e0 : s₁.heap = h0 := by rw [← hh, Bd.state]; rfl
  have N0 := Fr.nil n0
  have ef : entryFrame m #[(.int b), (.int g), (.int (1 : Int32)), (.int r), (.int d)] 5 = mkF m 0 #[.val (.int b), .val (.int g), .val (.int (1 : Int32)), .val (.int r), .val (.int d)] [] := by first | (simp [entryFrame, mkF, argsToLocals, Value.category, maxLocals]; done) | rfl
  show own_End p e below _ (s₁.setTop (entryFrame m #[(.int b), (.int g), (.int (1 : Int32)), (.int r), (.int d)] 5))
  refine own_by (fun _ k => castTop ef k) ?_
  show own_End p e below _ (s₁.setTop (mkF m 0 #[.val (.int b), .val (.int g), .val (.int (1 : Int32)), .val (.int r), .val (.int d)] []))
  refine own_by (fun _ k => XS.iloadN X0.here hx rfl (hb hby own_d_method_3_0) rfl k) ?_
  show own_End p e below _ (s₁.setTop (mkF m 1 #[.val (.int b), .val (.int g), .val (.int (1 : Int32)), .val (.int r), .val (.int d)] [(.int b)]))
  rcases Decidable.em (b = (0 : Int32)) with hc1_84 | hc1_84
  · -- 1 True
    refine own_by (fun _ k => XS.ifNo X0.here hx rfl (hb hby own_d_method_3_1) rfl ((if0 _ _).trans (teq hc1_84).2) k) ?_
    show own_End p e below _ (s₁.setTop (mkF m 4 #[.val (.int b), .val (.int g), .val (.int (1 : Int32)), .val (.int r), .val (.int d)] []))
    refine own_by (fun _ k => XS.iloadN X0.here hx rfl (hb hby own_d_method_3_4) rfl k) ?_
    show own_End p e below _ (s₁.setTop (mkF m 5 #[.val (.int b), .val (.int g), .val (.int (1 : Int32)), .val (.int r), .val (.int d)] [(.int g)]))
    obtain ⟨fs, hr, hrun, hended, hW, hsame⟩ := X0.leave (v := (some (.int g))) (fun h => by rw [Bd.returns] at h; cases h)
    refine ⟨_, _, retOut X0 hx Bd.returns rfl (Or.inl ⟨rfl, Or.inl rfl, _, rfl⟩) (hb hby own_d_method_3_5) hr, hrun, hended, _, _, rfl, ?_, ⟨_, rfl⟩, hW, hsame.mono (by decide) (by decide)⟩
    refine ⟨?_, N0, e0⟩
    rw [own_sel, if_pos hc1_84]
  · -- 1 False
    refine own_by (fun _ k => XS.ifYes X0.here hx rfl (pc0 := 1) (pc' := 6) rfl (hb hby own_d_method_3_1) rfl ((if0 _ _).trans (feq hc1_84).2) (by decide) (by decide) k) ?_
    show own_End p e below _ (s₁.setTop (mkF m 6 #[.val (.int b), .val (.int g), .val (.int (1 : Int32)), .val (.int r), .val (.int d)] []))
    refine own_by (fun _ k => XS.iloadN X0.here hx rfl (hb hby own_d_method_3_6) rfl k) ?_
    show own_End p e below _ (s₁.setTop (mkF m 7 #[.val (.int b), .val (.int g), .val (.int (1 : Int32)), .val (.int r), .val (.int d)] [(.int (1 : Int32))]))
    refine own_by (fun _ k => XS.ifNo X0.here hx rfl (hb hby own_d_method_3_7) rfl ((if0 _ _).trans (feq (by decide)).1) k) ?_
    show own_End p e below _ (s₁.setTop (mkF m 10 #[.val (.int b), .val (.int g), .val (.int (1 : Int32)), .val (.int r), .val (.int d)] []))
    refine own_by (fun _ k => XS.iload X0.here hx rfl (hb hby own_d_method_3_10) rfl k) ?_
    show own_End p e below _ (s₁.setTop (mkF m 12 #[.val (.int b), .val (.int g), .val (.int (1 : Int32)), .val (.int r), .val (.int d)] [(.int d)]))
    obtain ⟨fs, hr, hrun, hended, hW, hsame⟩ := X0.leave (v := (some (.int d))) (fun h => by rw [Bd.returns] at h; cases h)
    refine ⟨_, _, retOut X0 hx Bd.returns rfl (Or.inl ⟨rfl, Or.inl rfl, _, rfl⟩) (hb hby own_d_method_3_12) hr, hrun, hended, _, _, rfl, ?_, ⟨_, rfl⟩, hW, hsame.mono (by decide) (by decide)⟩
    refine ⟨?_, N0, e0⟩
    rw [own_sel, if_neg hc1_84]
set_option maxRecDepth 65536 in
set_option maxHeartbeats 40000000 in
theorem own_law (l : Launch) (Z : State) (a0 : Array Value) (hw : ∀ d ∈ tables_1, d.before a0 Z = true) (ws : List Jvm.Cond) (q1 q2 q3 q4 : Int64) (p5 : Int32) (wD : Addr) (h0 : Heap) (n0 : Nat) (Z0 : n0 ≤ Z.heap.size) (O : Ext Z.heap h0) (hC : own_IC Z) (S_D : Sta Z Z.heap "com/example/hongdae/hongdae/sale/WaitingRoom" "DEFAULT" "Lcom/example/hongdae/hongdae/sale/WaitingRoom;" (.ref wD)) (base_D : own_WRf Z Z.heap wD 3000 10 0 300) :
    own_MetW l Z x code maxLocals ret ws room_1 #[(.long q1), (.long q2), (.long q3), (.long q4), (.int p5)] h0 (fun v h L => v = some (.int 1) ∧ Fr n0 L) := by
  refine MetFree.of_bodySF (plainFor_of_name own_pn6) hisR ?_
  intro p e s m args below meth c s₁ Bd hml0 hP hK
  obtain ⟨rfl, hZ, hh⟩ := hP
  have hx := Bd.exec
  have hby := Bd.bytes
  have hml : c.maxLocals = 29 := hml0
  have hown : s.vm.findClass "com/example/hongdae/hongdae/sale/ChangeApplyToPinLaw" = some m.cls := findClass_of_methodNamed Bd.named
  have hnm := (name_of_methodNamed Bd.named Bd.method).1
  have X0 : Stand p l e room_1 s m #[(.long q1), (.long q2), (.long q3), (.long q4), (.int p5)] below meth c s₁ [] 0 0 := Stand.of_body Bd
  have e0 : s₁.heap = h0 := by rw [← hh, Bd.state]; rfl
  have N0 := Fr.nil n0
  have ef : entryFrame m #[(.long q1), (.long q2), (.long q3), (.long q4), (.int p5)] maxLocals = mkF m 0 #[.val (.long q1), .second, .val (.long q2), .second, .val (.long q3), .second, .val (.long q4), .second, .val (.int p5), .unset, .unset, .unset, .unset, .unset, .unset, .unset, .unset, .unset, .unset, .unset, .unset, .unset, .unset, .unset, .unset, .unset, .unset, .unset, .unset] [] := by first | (simp [entryFrame, mkF, argsToLocals, Value.category, maxLocals]; done) | rfl
  show own_End p e below _ (s₁.setTop (entryFrame m #[(.long q1), (.long q2), (.long q3), (.long q4), (.int p5)] maxLocals))
  refine own_by (fun _ k => castTop ef k) ?_
  show own_End p e below _ (s₁.setTop (mkF m 0 #[.val (.long q1), .second, .val (.long q2), .second, .val (.long q3), .second, .val (.long q4), .second, .val (.int p5), .unset, .unset, .unset, .unset, .unset, .unset, .unset, .unset, .unset, .unset, .unset, .unset, .unset, .unset, .unset, .unset, .unset, .unset, .unset, .unset] []))
  refine own_by (fun _ k => XS.lloadN X0.here hx rfl (hb hby at_0) rfl k) ?_
  show own_End p e below _ (s₁.setTop (mkF m 1 #[.val (.long q1), .second, .val (.long q2), .second, .val (.long q3), .second, .val (.long q4), .second, .val (.int p5), .unset, .unset, .unset, .unset, .unset, .unset, .unset, .unset, .unset, .unset, .unset, .unset, .unset, .unset, .unset, .unset, .unset, .unset, .unset, .unset] [(.long q1)]))
  refine own_by (fun _ k => XS.bipush X0.here hx rfl (hb hby at_1) k) ?_
  show own_End p e below _ (s₁.setTop (mkF m 3 #[.val (.long q1), .second, .val (.long q2), .second, .val (.long q3), .second, .val (.long q4), .second, .val (.int p5), .unset, .unset, .unset, .unset, .unset, .unset, .unset, .unset, .unset, .unset, .unset, .unset, .unset, .unset, .unset, .unset, .unset, .unset, .unset, .unset] [(.int (32 : Int32)), (.long q1)]))
  refine own_by (fun _ k => XS.lushr X0.here hx rfl (hb hby at_3) rfl k) ?_
  show own_End p e below _ (s₁.setTop (mkF m 4 #[.val (.long q1), .second, .val (.long q2), .second, .val (.long q3), .second, .val (.long q4), .second, .val (.int p5), .unset, .unset, .unset, .unset, .unset, .unset, .unset, .unset, .unset, .unset, .unset, .unset, .unset, .unset, .unset, .unset, .unset, .unset, .unset, .unset] [(.long ((q1.toUInt64 >>> ((32 : Int32) &&& 0x3f).toInt64.toUInt64).toInt64))]))
  refine own_by (fun _ k => XS.l2i X0.here hx rfl (hb hby at_4) rfl k) ?_
  show own_End p e below _ (s₁.setTop (mkF m 5 #[.val (.long q1), .second, .val (.long q2), .second, .val (.long q3), .second, .val (.long q4), .second, .val (.int p5), .unset, .unset, .unset, .unset, .unset, .unset, .unset, .unset, .unset, .unset, .unset, .unset, .unset, .unset, .unset, .unset, .unset, .unset, .unset, .unset] [(.int (((q1.toUInt64 >>> ((32 : Int32) &&& 0x3f).toInt64.toUInt64).toInt64).toInt32))]))
  refine own_by (fun _ k => XS.istore X0.here hx rfl (hb hby at_5) rfl (l' := #[.val (.long q1), .second, .val (.long q2), .second, .val (.long q3), .second, .val (.long q4), .second, .val (.int p5), .val (.int (((q1.toUInt64 >>> ((32 : Int32) &&& 0x3f).toInt64.toUInt64).toInt64).toInt32)), .unset, .unset, .unset, .unset, .unset, .unset, .unset, .unset, .unset, .unset, .unset, .unset, .unset, .unset, .unset, .unset, .unset, .unset, .unset]) rfl k) ?_
  show own_End p e below _ (s₁.setTop (mkF m 7 #[.val (.long q1), .second, .val (.long q2), .second, .val (.long q3), .second, .val (.long q4), .second, .val (.int p5), .val (.int (((q1.toUInt64 >>> ((32 : Int32) &&& 0x3f).toInt64.toUInt64).toInt64).toInt32)), .unset, .unset, .unset, .unset, .unset, .unset, .unset, .unset, .unset, .unset, .unset, .unset, .unset, .unset, .unset, .unset, .unset, .unset, .unset] []))
  refine own_by (fun _ k => XS.lloadN X0.here hx rfl (hb hby at_7) rfl k) ?_
  show own_End p e below _ (s₁.setTop (mkF m 8 #[.val (.long q1), .second, .val (.long q2), .second, .val (.long q3), .second, .val (.long q4), .second, .val (.int p5), .val (.int (((q1.toUInt64 >>> ((32 : Int32) &&& 0x3f).toInt64.toUInt64).toInt64).toInt32)), .unset, .unset, .unset, .unset, .unset, .unset, .unset, .unset, .unset, .unset, .unset, .unset, .unset, .unset, .unset, .unset, .unset, .unset, .unset] [(.long q1)]))
  refine own_by (fun _ k => XS.l2i X0.here hx rfl (hb hby at_8) rfl k) ?_
  show own_End p e below _ (s₁.setTop (mkF m 9 #[.val (.long q1), .second, .val (.long q2), .second, .val (.long q3), .second, .val (.long q4), .second, .val (.int p5), .val (.int (((q1.toUInt64 >>> ((32 : Int32) &&& 0x3f).toInt64.toUInt64).toInt64).toInt32)), .unset, .unset, .unset, .unset, .unset, .unset, .unset, .unset, .unset, .unset, .unset, .unset, .unset, .unset, .unset, .unset, .unset, .unset, .unset] [(.int (q1.toInt32))]))
  refine own_by (fun _ k => XS.istore X0.here hx rfl (hb hby at_9) rfl (l' := #[.val (.long q1), .second, .val (.long q2), .second, .val (.long q3), .second, .val (.long q4), .second, .val (.int p5), .val (.int (((q1.toUInt64 >>> ((32 : Int32) &&& 0x3f).toInt64.toUInt64).toInt64).toInt32)), .val (.int (q1.toInt32)), .unset, .unset, .unset, .unset, .unset, .unset, .unset, .unset, .unset, .unset, .unset, .unset, .unset, .unset, .unset, .unset, .unset, .unset]) rfl k) ?_
  show own_End p e below _ (s₁.setTop (mkF m 11 #[.val (.long q1), .second, .val (.long q2), .second, .val (.long q3), .second, .val (.long q4), .second, .val (.int p5), .val (.int (((q1.toUInt64 >>> ((32 : Int32) &&& 0x3f).toInt64.toUInt64).toInt64).toInt32)), .val (.int (q1.toInt32)), .unset, .unset, .unset, .unset, .unset, .unset, .unset, .unset, .unset, .unset, .unset, .unset, .unset, .unset, .unset, .unset, .unset, .unset] []))
  refine own_by (fun _ k => XS.lloadN X0.here hx rfl (hb hby at_11) rfl k) ?_
  show own_End p e below _ (s₁.setTop (mkF m 12 #[.val (.long q1), .second, .val (.long q2), .second, .val (.long q3), .second, .val (.long q4), .second, .val (.int p5), .val (.int (((q1.toUInt64 >>> ((32 : Int32) &&& 0x3f).toInt64.toUInt64).toInt64).toInt32)), .val (.int (q1.toInt32)), .unset, .unset, .unset, .unset, .unset, .unset, .unset, .unset, .unset, .unset, .unset, .unset, .unset, .unset, .unset, .unset, .unset, .unset] [(.long q2)]))
  refine own_by (fun _ k => XS.bipush X0.here hx rfl (hb hby at_12) k) ?_
  show own_End p e below _ (s₁.setTop (mkF m 14 #[.val (.long q1), .second, .val (.long q2), .second, .val (.long q3), .second, .val (.long q4), .second, .val (.int p5), .val (.int (((q1.toUInt64 >>> ((32 : Int32) &&& 0x3f).toInt64.toUInt64).toInt64).toInt32)), .val (.int (q1.toInt32)), .unset, .unset, .unset, .unset, .unset, .unset, .unset, .unset, .unset, .unset, .unset, .unset, .unset, .unset, .unset, .unset, .unset, .unset] [(.int (32 : Int32)), (.long q2)]))
  refine own_by (fun _ k => XS.lushr X0.here hx rfl (hb hby at_14) rfl k) ?_
  show own_End p e below _ (s₁.setTop (mkF m 15 #[.val (.long q1), .second, .val (.long q2), .second, .val (.long q3), .second, .val (.long q4), .second, .val (.int p5), .val (.int (((q1.toUInt64 >>> ((32 : Int32) &&& 0x3f).toInt64.toUInt64).toInt64).toInt32)), .val (.int (q1.toInt32)), .unset, .unset, .unset, .unset, .unset, .unset, .unset, .unset, .unset, .unset, .unset, .unset, .unset, .unset, .unset, .unset, .unset, .unset] [(.long ((q2.toUInt64 >>> ((32 : Int32) &&& 0x3f).toInt64.toUInt64).toInt64))]))
  refine own_by (fun _ k => XS.l2i X0.here hx rfl (hb hby at_15) rfl k) ?_
  show own_End p e below _ (s₁.setTop (mkF m 16 #[.val (.long q1), .second, .val (.long q2), .second, .val (.long q3), .second, .val (.long q4), .second, .val (.int p5), .val (.int (((q1.toUInt64 >>> ((32 : Int32) &&& 0x3f).toInt64.toUInt64).toInt64).toInt32)), .val (.int (q1.toInt32)), .unset, .unset, .unset, .unset, .unset, .unset, .unset, .unset, .unset, .unset, .unset, .unset, .unset, .unset, .unset, .unset, .unset, .unset] [(.int (((q2.toUInt64 >>> ((32 : Int32) &&& 0x3f).toInt64.toUInt64).toInt64).toInt32))]))
  refine own_by (fun _ k => XS.istore X0.here hx rfl (hb hby at_16) rfl (l' := #[.val (.long q1), .second, .val (.long q2), .second, .val (.long q3), .second, .val (.long q4), .second, .val (.int p5), .val (.int (((q1.toUInt64 >>> ((32 : Int32) &&& 0x3f).toInt64.toUInt64).toInt64).toInt32)), .val (.int (q1.toInt32)), .val (.int (((q2.toUInt64 >>> ((32 : Int32) &&& 0x3f).toInt64.toUInt64).toInt64).toInt32)), .unset, .unset, .unset, .unset, .unset, .unset, .unset, .unset, .unset, .unset, .unset, .unset, .unset, .unset, .unset, .unset, .unset]) rfl k) ?_
  show own_End p e below _ (s₁.setTop (mkF m 18 #[.val (.long q1), .second, .val (.long q2), .second, .val (.long q3), .second, .val (.long q4), .second, .val (.int p5), .val (.int (((q1.toUInt64 >>> ((32 : Int32) &&& 0x3f).toInt64.toUInt64).toInt64).toInt32)), .val (.int (q1.toInt32)), .val (.int (((q2.toUInt64 >>> ((32 : Int32) &&& 0x3f).toInt64.toUInt64).toInt64).toInt32)), .unset, .unset, .unset, .unset, .unset, .unset, .unset, .unset, .unset, .unset, .unset, .unset, .unset, .unset, .unset, .unset, .unset] []))
  refine own_by (fun _ k => XS.lloadN X0.here hx rfl (hb hby at_18) rfl k) ?_
  show own_End p e below _ (s₁.setTop (mkF m 19 #[.val (.long q1), .second, .val (.long q2), .second, .val (.long q3), .second, .val (.long q4), .second, .val (.int p5), .val (.int (((q1.toUInt64 >>> ((32 : Int32) &&& 0x3f).toInt64.toUInt64).toInt64).toInt32)), .val (.int (q1.toInt32)), .val (.int (((q2.toUInt64 >>> ((32 : Int32) &&& 0x3f).toInt64.toUInt64).toInt64).toInt32)), .unset, .unset, .unset, .unset, .unset, .unset, .unset, .unset, .unset, .unset, .unset, .unset, .unset, .unset, .unset, .unset, .unset] [(.long q2)]))
  refine own_by (fun _ k => XS.l2i X0.here hx rfl (hb hby at_19) rfl k) ?_
  show own_End p e below _ (s₁.setTop (mkF m 20 #[.val (.long q1), .second, .val (.long q2), .second, .val (.long q3), .second, .val (.long q4), .second, .val (.int p5), .val (.int (((q1.toUInt64 >>> ((32 : Int32) &&& 0x3f).toInt64.toUInt64).toInt64).toInt32)), .val (.int (q1.toInt32)), .val (.int (((q2.toUInt64 >>> ((32 : Int32) &&& 0x3f).toInt64.toUInt64).toInt64).toInt32)), .unset, .unset, .unset, .unset, .unset, .unset, .unset, .unset, .unset, .unset, .unset, .unset, .unset, .unset, .unset, .unset, .unset] [(.int (q2.toInt32))]))
  refine own_by (fun _ k => XS.istore X0.here hx rfl (hb hby at_20) rfl (l' := #[.val (.long q1), .second, .val (.long q2), .second, .val (.long q3), .second, .val (.long q4), .second, .val (.int p5), .val (.int (((q1.toUInt64 >>> ((32 : Int32) &&& 0x3f).toInt64.toUInt64).toInt64).toInt32)), .val (.int (q1.toInt32)), .val (.int (((q2.toUInt64 >>> ((32 : Int32) &&& 0x3f).toInt64.toUInt64).toInt64).toInt32)), .val (.int (q2.toInt32)), .unset, .unset, .unset, .unset, .unset, .unset, .unset, .unset, .unset, .unset, .unset, .unset, .unset, .unset, .unset, .unset]) rfl k) ?_
  show own_End p e below _ (s₁.setTop (mkF m 22 #[.val (.long q1), .second, .val (.long q2), .second, .val (.long q3), .second, .val (.long q4), .second, .val (.int p5), .val (.int (((q1.toUInt64 >>> ((32 : Int32) &&& 0x3f).toInt64.toUInt64).toInt64).toInt32)), .val (.int (q1.toInt32)), .val (.int (((q2.toUInt64 >>> ((32 : Int32) &&& 0x3f).toInt64.toUInt64).toInt64).toInt32)), .val (.int (q2.toInt32)), .unset, .unset, .unset, .unset, .unset, .unset, .unset, .unset, .unset, .unset, .unset, .unset, .unset, .unset, .unset, .unset] []))
  refine own_by (fun _ k => XS.lload X0.here hx rfl (hb hby at_22) rfl k) ?_
  show own_End p e below _ (s₁.setTop (mkF m 24 #[.val (.long q1), .second, .val (.long q2), .second, .val (.long q3), .second, .val (.long q4), .second, .val (.int p5), .val (.int (((q1.toUInt64 >>> ((32 : Int32) &&& 0x3f).toInt64.toUInt64).toInt64).toInt32)), .val (.int (q1.toInt32)), .val (.int (((q2.toUInt64 >>> ((32 : Int32) &&& 0x3f).toInt64.toUInt64).toInt64).toInt32)), .val (.int (q2.toInt32)), .unset, .unset, .unset, .unset, .unset, .unset, .unset, .unset, .unset, .unset, .unset, .unset, .unset, .unset, .unset, .unset] [(.long q3)]))
  refine own_by (fun _ k => XS.bipush X0.here hx rfl (hb hby at_24) k) ?_
  show own_End p e below _ (s₁.setTop (mkF m 26 #[.val (.long q1), .second, .val (.long q2), .second, .val (.long q3), .second, .val (.long q4), .second, .val (.int p5), .val (.int (((q1.toUInt64 >>> ((32 : Int32) &&& 0x3f).toInt64.toUInt64).toInt64).toInt32)), .val (.int (q1.toInt32)), .val (.int (((q2.toUInt64 >>> ((32 : Int32) &&& 0x3f).toInt64.toUInt64).toInt64).toInt32)), .val (.int (q2.toInt32)), .unset, .unset, .unset, .unset, .unset, .unset, .unset, .unset, .unset, .unset, .unset, .unset, .unset, .unset, .unset, .unset] [(.int (32 : Int32)), (.long q3)]))
  refine own_by (fun _ k => XS.lushr X0.here hx rfl (hb hby at_26) rfl k) ?_
  show own_End p e below _ (s₁.setTop (mkF m 27 #[.val (.long q1), .second, .val (.long q2), .second, .val (.long q3), .second, .val (.long q4), .second, .val (.int p5), .val (.int (((q1.toUInt64 >>> ((32 : Int32) &&& 0x3f).toInt64.toUInt64).toInt64).toInt32)), .val (.int (q1.toInt32)), .val (.int (((q2.toUInt64 >>> ((32 : Int32) &&& 0x3f).toInt64.toUInt64).toInt64).toInt32)), .val (.int (q2.toInt32)), .unset, .unset, .unset, .unset, .unset, .unset, .unset, .unset, .unset, .unset, .unset, .unset, .unset, .unset, .unset, .unset] [(.long ((q3.toUInt64 >>> ((32 : Int32) &&& 0x3f).toInt64.toUInt64).toInt64))]))
  refine own_by (fun _ k => XS.l2i X0.here hx rfl (hb hby at_27) rfl k) ?_
  show own_End p e below _ (s₁.setTop (mkF m 28 #[.val (.long q1), .second, .val (.long q2), .second, .val (.long q3), .second, .val (.long q4), .second, .val (.int p5), .val (.int (((q1.toUInt64 >>> ((32 : Int32) &&& 0x3f).toInt64.toUInt64).toInt64).toInt32)), .val (.int (q1.toInt32)), .val (.int (((q2.toUInt64 >>> ((32 : Int32) &&& 0x3f).toInt64.toUInt64).toInt64).toInt32)), .val (.int (q2.toInt32)), .unset, .unset, .unset, .unset, .unset, .unset, .unset, .unset, .unset, .unset, .unset, .unset, .unset, .unset, .unset, .unset] [(.int (((q3.toUInt64 >>> ((32 : Int32) &&& 0x3f).toInt64.toUInt64).toInt64).toInt32))]))
  refine own_by (fun _ k => XS.istore X0.here hx rfl (hb hby at_28) rfl (l' := #[.val (.long q1), .second, .val (.long q2), .second, .val (.long q3), .second, .val (.long q4), .second, .val (.int p5), .val (.int (((q1.toUInt64 >>> ((32 : Int32) &&& 0x3f).toInt64.toUInt64).toInt64).toInt32)), .val (.int (q1.toInt32)), .val (.int (((q2.toUInt64 >>> ((32 : Int32) &&& 0x3f).toInt64.toUInt64).toInt64).toInt32)), .val (.int (q2.toInt32)), .val (.int (((q3.toUInt64 >>> ((32 : Int32) &&& 0x3f).toInt64.toUInt64).toInt64).toInt32)), .unset, .unset, .unset, .unset, .unset, .unset, .unset, .unset, .unset, .unset, .unset, .unset, .unset, .unset, .unset]) rfl k) ?_
  show own_End p e below _ (s₁.setTop (mkF m 30 #[.val (.long q1), .second, .val (.long q2), .second, .val (.long q3), .second, .val (.long q4), .second, .val (.int p5), .val (.int (((q1.toUInt64 >>> ((32 : Int32) &&& 0x3f).toInt64.toUInt64).toInt64).toInt32)), .val (.int (q1.toInt32)), .val (.int (((q2.toUInt64 >>> ((32 : Int32) &&& 0x3f).toInt64.toUInt64).toInt64).toInt32)), .val (.int (q2.toInt32)), .val (.int (((q3.toUInt64 >>> ((32 : Int32) &&& 0x3f).toInt64.toUInt64).toInt64).toInt32)), .unset, .unset, .unset, .unset, .unset, .unset, .unset, .unset, .unset, .unset, .unset, .unset, .unset, .unset, .unset] []))
  refine own_by (fun _ k => XS.lload X0.here hx rfl (hb hby at_30) rfl k) ?_
  show own_End p e below _ (s₁.setTop (mkF m 32 #[.val (.long q1), .second, .val (.long q2), .second, .val (.long q3), .second, .val (.long q4), .second, .val (.int p5), .val (.int (((q1.toUInt64 >>> ((32 : Int32) &&& 0x3f).toInt64.toUInt64).toInt64).toInt32)), .val (.int (q1.toInt32)), .val (.int (((q2.toUInt64 >>> ((32 : Int32) &&& 0x3f).toInt64.toUInt64).toInt64).toInt32)), .val (.int (q2.toInt32)), .val (.int (((q3.toUInt64 >>> ((32 : Int32) &&& 0x3f).toInt64.toUInt64).toInt64).toInt32)), .unset, .unset, .unset, .unset, .unset, .unset, .unset, .unset, .unset, .unset, .unset, .unset, .unset, .unset, .unset] [(.long q3)]))
  refine own_by (fun _ k => XS.l2i X0.here hx rfl (hb hby at_32) rfl k) ?_
  show own_End p e below _ (s₁.setTop (mkF m 33 #[.val (.long q1), .second, .val (.long q2), .second, .val (.long q3), .second, .val (.long q4), .second, .val (.int p5), .val (.int (((q1.toUInt64 >>> ((32 : Int32) &&& 0x3f).toInt64.toUInt64).toInt64).toInt32)), .val (.int (q1.toInt32)), .val (.int (((q2.toUInt64 >>> ((32 : Int32) &&& 0x3f).toInt64.toUInt64).toInt64).toInt32)), .val (.int (q2.toInt32)), .val (.int (((q3.toUInt64 >>> ((32 : Int32) &&& 0x3f).toInt64.toUInt64).toInt64).toInt32)), .unset, .unset, .unset, .unset, .unset, .unset, .unset, .unset, .unset, .unset, .unset, .unset, .unset, .unset, .unset] [(.int (q3.toInt32))]))
  refine own_by (fun _ k => XS.istore X0.here hx rfl (hb hby at_33) rfl (l' := #[.val (.long q1), .second, .val (.long q2), .second, .val (.long q3), .second, .val (.long q4), .second, .val (.int p5), .val (.int (((q1.toUInt64 >>> ((32 : Int32) &&& 0x3f).toInt64.toUInt64).toInt64).toInt32)), .val (.int (q1.toInt32)), .val (.int (((q2.toUInt64 >>> ((32 : Int32) &&& 0x3f).toInt64.toUInt64).toInt64).toInt32)), .val (.int (q2.toInt32)), .val (.int (((q3.toUInt64 >>> ((32 : Int32) &&& 0x3f).toInt64.toUInt64).toInt64).toInt32)), .val (.int (q3.toInt32)), .unset, .unset, .unset, .unset, .unset, .unset, .unset, .unset, .unset, .unset, .unset, .unset, .unset, .unset]) rfl k) ?_
  show own_End p e below _ (s₁.setTop (mkF m 35 #[.val (.long q1), .second, .val (.long q2), .second, .val (.long q3), .second, .val (.long q4), .second, .val (.int p5), .val (.int (((q1.toUInt64 >>> ((32 : Int32) &&& 0x3f).toInt64.toUInt64).toInt64).toInt32)), .val (.int (q1.toInt32)), .val (.int (((q2.toUInt64 >>> ((32 : Int32) &&& 0x3f).toInt64.toUInt64).toInt64).toInt32)), .val (.int (q2.toInt32)), .val (.int (((q3.toUInt64 >>> ((32 : Int32) &&& 0x3f).toInt64.toUInt64).toInt64).toInt32)), .val (.int (q3.toInt32)), .unset, .unset, .unset, .unset, .unset, .unset, .unset, .unset, .unset, .unset, .unset, .unset, .unset, .unset] []))
  refine own_by (fun _ k => XS.lload X0.here hx rfl (hb hby at_35) rfl k) ?_
  show own_End p e below _ (s₁.setTop (mkF m 37 #[.val (.long q1), .second, .val (.long q2), .second, .val (.long q3), .second, .val (.long q4), .second, .val (.int p5), .val (.int (((q1.toUInt64 >>> ((32 : Int32) &&& 0x3f).toInt64.toUInt64).toInt64).toInt32)), .val (.int (q1.toInt32)), .val (.int (((q2.toUInt64 >>> ((32 : Int32) &&& 0x3f).toInt64.toUInt64).toInt64).toInt32)), .val (.int (q2.toInt32)), .val (.int (((q3.toUInt64 >>> ((32 : Int32) &&& 0x3f).toInt64.toUInt64).toInt64).toInt32)), .val (.int (q3.toInt32)), .unset, .unset, .unset, .unset, .unset, .unset, .unset, .unset, .unset, .unset, .unset, .unset, .unset, .unset] [(.long q4)]))
  refine own_by (fun _ k => XS.bipush X0.here hx rfl (hb hby at_37) k) ?_
  show own_End p e below _ (s₁.setTop (mkF m 39 #[.val (.long q1), .second, .val (.long q2), .second, .val (.long q3), .second, .val (.long q4), .second, .val (.int p5), .val (.int (((q1.toUInt64 >>> ((32 : Int32) &&& 0x3f).toInt64.toUInt64).toInt64).toInt32)), .val (.int (q1.toInt32)), .val (.int (((q2.toUInt64 >>> ((32 : Int32) &&& 0x3f).toInt64.toUInt64).toInt64).toInt32)), .val (.int (q2.toInt32)), .val (.int (((q3.toUInt64 >>> ((32 : Int32) &&& 0x3f).toInt64.toUInt64).toInt64).toInt32)), .val (.int (q3.toInt32)), .unset, .unset, .unset, .unset, .unset, .unset, .unset, .unset, .unset, .unset, .unset, .unset, .unset, .unset] [(.int (32 : Int32)), (.long q4)]))
  refine own_by (fun _ k => XS.lushr X0.here hx rfl (hb hby at_39) rfl k) ?_
  show own_End p e below _ (s₁.setTop (mkF m 40 #[.val (.long q1), .second, .val (.long q2), .second, .val (.long q3), .second, .val (.long q4), .second, .val (.int p5), .val (.int (((q1.toUInt64 >>> ((32 : Int32) &&& 0x3f).toInt64.toUInt64).toInt64).toInt32)), .val (.int (q1.toInt32)), .val (.int (((q2.toUInt64 >>> ((32 : Int32) &&& 0x3f).toInt64.toUInt64).toInt64).toInt32)), .val (.int (q2.toInt32)), .val (.int (((q3.toUInt64 >>> ((32 : Int32) &&& 0x3f).toInt64.toUInt64).toInt64).toInt32)), .val (.int (q3.toInt32)), .unset, .unset, .unset, .unset, .unset, .unset, .unset, .unset, .unset, .unset, .unset, .unset, .unset, .unset] [(.long ((q4.toUInt64 >>> ((32 : Int32) &&& 0x3f).toInt64.toUInt64).toInt64))]))
  refine own_by (fun _ k => XS.l2i X0.here hx rfl (hb hby at_40) rfl k) ?_
  show own_End p e below _ (s₁.setTop (mkF m 41 #[.val (.long q1), .second, .val (.long q2), .second, .val (.long q3), .second, .val (.long q4), .second, .val (.int p5), .val (.int (((q1.toUInt64 >>> ((32 : Int32) &&& 0x3f).toInt64.toUInt64).toInt64).toInt32)), .val (.int (q1.toInt32)), .val (.int (((q2.toUInt64 >>> ((32 : Int32) &&& 0x3f).toInt64.toUInt64).toInt64).toInt32)), .val (.int (q2.toInt32)), .val (.int (((q3.toUInt64 >>> ((32 : Int32) &&& 0x3f).toInt64.toUInt64).toInt64).toInt32)), .val (.int (q3.toInt32)), .unset, .unset, .unset, .unset, .unset, .unset, .unset, .unset, .unset, .unset, .unset, .unset, .unset, .unset] [(.int (((q4.toUInt64 >>> ((32 : Int32) &&& 0x3f).toInt64.toUInt64).toInt64).toInt32))]))
  refine own_by (fun _ k => XS.istore X0.here hx rfl (hb hby at_41) rfl (l' := #[.val (.long q1), .second, .val (.long q2), .second, .val (.long q3), .second, .val (.long q4), .second, .val (.int p5), .val (.int (((q1.toUInt64 >>> ((32 : Int32) &&& 0x3f).toInt64.toUInt64).toInt64).toInt32)), .val (.int (q1.toInt32)), .val (.int (((q2.toUInt64 >>> ((32 : Int32) &&& 0x3f).toInt64.toUInt64).toInt64).toInt32)), .val (.int (q2.toInt32)), .val (.int (((q3.toUInt64 >>> ((32 : Int32) &&& 0x3f).toInt64.toUInt64).toInt64).toInt32)), .val (.int (q3.toInt32)), .val (.int (((q4.toUInt64 >>> ((32 : Int32) &&& 0x3f).toInt64.toUInt64).toInt64).toInt32)), .unset, .unset, .unset, .unset, .unset, .unset, .unset, .unset, .unset, .unset, .unset, .unset, .unset]) rfl k) ?_
  show own_End p e below _ (s₁.setTop (mkF m 43 #[.val (.long q1), .second, .val (.long q2), .second, .val (.long q3), .second, .val (.long q4), .second, .val (.int p5), .val (.int (((q1.toUInt64 >>> ((32 : Int32) &&& 0x3f).toInt64.toUInt64).toInt64).toInt32)), .val (.int (q1.toInt32)), .val (.int (((q2.toUInt64 >>> ((32 : Int32) &&& 0x3f).toInt64.toUInt64).toInt64).toInt32)), .val (.int (q2.toInt32)), .val (.int (((q3.toUInt64 >>> ((32 : Int32) &&& 0x3f).toInt64.toUInt64).toInt64).toInt32)), .val (.int (q3.toInt32)), .val (.int (((q4.toUInt64 >>> ((32 : Int32) &&& 0x3f).toInt64.toUInt64).toInt64).toInt32)), .unset, .unset, .unset, .unset, .unset, .unset, .unset, .unset, .unset, .unset, .unset, .unset, .unset] []))
  refine own_by (fun _ k => XS.lload X0.here hx rfl (hb hby at_43) rfl k) ?_
  show own_End p e below _ (s₁.setTop (mkF m 45 #[.val (.long q1), .second, .val (.long q2), .second, .val (.long q3), .second, .val (.long q4), .second, .val (.int p5), .val (.int (((q1.toUInt64 >>> ((32 : Int32) &&& 0x3f).toInt64.toUInt64).toInt64).toInt32)), .val (.int (q1.toInt32)), .val (.int (((q2.toUInt64 >>> ((32 : Int32) &&& 0x3f).toInt64.toUInt64).toInt64).toInt32)), .val (.int (q2.toInt32)), .val (.int (((q3.toUInt64 >>> ((32 : Int32) &&& 0x3f).toInt64.toUInt64).toInt64).toInt32)), .val (.int (q3.toInt32)), .val (.int (((q4.toUInt64 >>> ((32 : Int32) &&& 0x3f).toInt64.toUInt64).toInt64).toInt32)), .unset, .unset, .unset, .unset, .unset, .unset, .unset, .unset, .unset, .unset, .unset, .unset, .unset] [(.long q4)]))
  refine own_by (fun _ k => XS.l2i X0.here hx rfl (hb hby at_45) rfl k) ?_
  show own_End p e below _ (s₁.setTop (mkF m 46 #[.val (.long q1), .second, .val (.long q2), .second, .val (.long q3), .second, .val (.long q4), .second, .val (.int p5), .val (.int (((q1.toUInt64 >>> ((32 : Int32) &&& 0x3f).toInt64.toUInt64).toInt64).toInt32)), .val (.int (q1.toInt32)), .val (.int (((q2.toUInt64 >>> ((32 : Int32) &&& 0x3f).toInt64.toUInt64).toInt64).toInt32)), .val (.int (q2.toInt32)), .val (.int (((q3.toUInt64 >>> ((32 : Int32) &&& 0x3f).toInt64.toUInt64).toInt64).toInt32)), .val (.int (q3.toInt32)), .val (.int (((q4.toUInt64 >>> ((32 : Int32) &&& 0x3f).toInt64.toUInt64).toInt64).toInt32)), .unset, .unset, .unset, .unset, .unset, .unset, .unset, .unset, .unset, .unset, .unset, .unset, .unset] [(.int (q4.toInt32))]))
  refine own_by (fun _ k => XS.istore X0.here hx rfl (hb hby at_46) rfl (l' := #[.val (.long q1), .second, .val (.long q2), .second, .val (.long q3), .second, .val (.long q4), .second, .val (.int p5), .val (.int (((q1.toUInt64 >>> ((32 : Int32) &&& 0x3f).toInt64.toUInt64).toInt64).toInt32)), .val (.int (q1.toInt32)), .val (.int (((q2.toUInt64 >>> ((32 : Int32) &&& 0x3f).toInt64.toUInt64).toInt64).toInt32)), .val (.int (q2.toInt32)), .val (.int (((q3.toUInt64 >>> ((32 : Int32) &&& 0x3f).toInt64.toUInt64).toInt64).toInt32)), .val (.int (q3.toInt32)), .val (.int (((q4.toUInt64 >>> ((32 : Int32) &&& 0x3f).toInt64.toUInt64).toInt64).toInt32)), .val (.int (q4.toInt32)), .unset, .unset, .unset, .unset, .unset, .unset, .unset, .unset, .unset, .unset, .unset, .unset]) rfl k) ?_
  show own_End p e below _ (s₁.setTop (mkF m 48 #[.val (.long q1), .second, .val (.long q2), .second, .val (.long q3), .second, .val (.long q4), .second, .val (.int p5), .val (.int (((q1.toUInt64 >>> ((32 : Int32) &&& 0x3f).toInt64.toUInt64).toInt64).toInt32)), .val (.int (q1.toInt32)), .val (.int (((q2.toUInt64 >>> ((32 : Int32) &&& 0x3f).toInt64.toUInt64).toInt64).toInt32)), .val (.int (q2.toInt32)), .val (.int (((q3.toUInt64 >>> ((32 : Int32) &&& 0x3f).toInt64.toUInt64).toInt64).toInt32)), .val (.int (q3.toInt32)), .val (.int (((q4.toUInt64 >>> ((32 : Int32) &&& 0x3f).toInt64.toUInt64).toInt64).toInt32)), .val (.int (q4.toInt32)), .unset, .unset, .unset, .unset, .unset, .unset, .unset, .unset, .unset, .unset, .unset, .unset] []))
  generalize (((q1.toUInt64 >>> ((32 : Int32) &&& 0x3f).toInt64.toUInt64).toInt64).toInt32) = ga
  generalize (q1.toInt32) = gt
  generalize (((q2.toUInt64 >>> ((32 : Int32) &&& 0x3f).toInt64.toUInt64).toInt64).toInt32) = gm
  generalize (q2.toInt32) = gs
  generalize (((q3.toUInt64 >>> ((32 : Int32) &&& 0x3f).toInt64.toUInt64).toInt64).toInt32) = ra
  generalize (q3.toInt32) = rt
  generalize (((q4.toUInt64 >>> ((32 : Int32) &&& 0x3f).toInt64.toUInt64).toInt64).toInt32) = rm
  generalize (q4.toInt32) = rs
  show own_End p e below _ (s₁.setTop (mkF m 48 #[.val (.long q1), .second, .val (.long q2), .second, .val (.long q3), .second, .val (.long q4), .second, .val (.int p5), .val (.int ga), .val (.int gt), .val (.int gm), .val (.int gs), .val (.int ra), .val (.int rt), .val (.int rm), .val (.int rs), .unset, .unset, .unset, .unset, .unset, .unset, .unset, .unset, .unset, .unset, .unset, .unset] []))
  refine own_by (fun _ k => XS.iload X0.here hx rfl (hb hby at_48) rfl k) ?_
  show own_End p e below _ (s₁.setTop (mkF m 50 #[.val (.long q1), .second, .val (.long q2), .second, .val (.long q3), .second, .val (.long q4), .second, .val (.int p5), .val (.int ga), .val (.int gt), .val (.int gm), .val (.int gs), .val (.int ra), .val (.int rt), .val (.int rm), .val (.int rs), .unset, .unset, .unset, .unset, .unset, .unset, .unset, .unset, .unset, .unset, .unset, .unset] [(.int p5)]))
  refine own_by (fun _ k => XS.iconst X0.here hx rfl (hb hby at_50) k) ?_
  show own_End p e below _ (s₁.setTop (mkF m 51 #[.val (.long q1), .second, .val (.long q2), .second, .val (.long q3), .second, .val (.long q4), .second, .val (.int p5), .val (.int ga), .val (.int gt), .val (.int gm), .val (.int gs), .val (.int ra), .val (.int rt), .val (.int rm), .val (.int rs), .unset, .unset, .unset, .unset, .unset, .unset, .unset, .unset, .unset, .unset, .unset, .unset] [(.int (1 : Int32)), (.int p5)]))
  refine own_by (fun _ k => XS.iand X0.here hx rfl (hb hby at_51) rfl k) ?_
  show own_End p e below _ (s₁.setTop (mkF m 52 #[.val (.long q1), .second, .val (.long q2), .second, .val (.long q3), .second, .val (.long q4), .second, .val (.int p5), .val (.int ga), .val (.int gt), .val (.int gm), .val (.int gs), .val (.int ra), .val (.int rt), .val (.int rm), .val (.int rs), .unset, .unset, .unset, .unset, .unset, .unset, .unset, .unset, .unset, .unset, .unset, .unset] [(.int (p5 &&& (1 : Int32)))]))
  refine own_join (fun END => ∀ f1 : Int32, END (s₁.setTop (mkF m 62 #[.val (.long q1), .second, .val (.long q2), .second, .val (.long q3), .second, .val (.long q4), .second, .val (.int p5), .val (.int ga), .val (.int gt), .val (.int gm), .val (.int gs), .val (.int ra), .val (.int rt), .val (.int rm), .val (.int rs), .val (.int f1), .unset, .unset, .unset, .unset, .unset, .unset, .unset, .unset, .unset, .unset, .unset] []))) (fun J52 => ?_) ?_
  · -- the two ways
    show own_End p e below _ (s₁.setTop (mkF m 52 #[.val (.long q1), .second, .val (.long q2), .second, .val (.long q3), .second, .val (.long q4), .second, .val (.int p5), .val (.int ga), .val (.int gt), .val (.int gm), .val (.int gs), .val (.int ra), .val (.int rt), .val (.int rm), .val (.int rs), .unset, .unset, .unset, .unset, .unset, .unset, .unset, .unset, .unset, .unset, .unset, .unset] [(.int (p5 &&& (1 : Int32)))]))
    rcases Decidable.em ((p5 &&& (1 : Int32)) = (0 : Int32)) with hc52_85 | hc52_85
    · -- 52 True
      refine own_by (fun _ k => XS.ifYes X0.here hx rfl (pc0 := 52) (pc' := 59) rfl (hb hby at_52) rfl ((if0 _ _).trans (teq hc52_85).1) (by decide) (by decide) k) ?_
      show own_End p e below _ (s₁.setTop (mkF m 59 #[.val (.long q1), .second, .val (.long q2), .second, .val (.long q3), .second, .val (.long q4), .second, .val (.int p5), .val (.int ga), .val (.int gt), .val (.int gm), .val (.int gs), .val (.int ra), .val (.int rt), .val (.int rm), .val (.int rs), .unset, .unset, .unset, .unset, .unset, .unset, .unset, .unset, .unset, .unset, .unset, .unset] []))
      refine own_by (fun _ k => XS.iconst X0.here hx rfl (hb hby at_59) k) ?_
      show own_End p e below _ (s₁.setTop (mkF m 60 #[.val (.long q1), .second, .val (.long q2), .second, .val (.long q3), .second, .val (.long q4), .second, .val (.int p5), .val (.int ga), .val (.int gt), .val (.int gm), .val (.int gs), .val (.int ra), .val (.int rt), .val (.int rm), .val (.int rs), .unset, .unset, .unset, .unset, .unset, .unset, .unset, .unset, .unset, .unset, .unset, .unset] [(.int (0 : Int32))]))
      refine own_by (fun _ k => XS.istore X0.here hx rfl (hb hby at_60) rfl (l' := #[.val (.long q1), .second, .val (.long q2), .second, .val (.long q3), .second, .val (.long q4), .second, .val (.int p5), .val (.int ga), .val (.int gt), .val (.int gm), .val (.int gs), .val (.int ra), .val (.int rt), .val (.int rm), .val (.int rs), .val (.int (0 : Int32)), .unset, .unset, .unset, .unset, .unset, .unset, .unset, .unset, .unset, .unset, .unset]) rfl k) ?_
      show own_End p e below _ (s₁.setTop (mkF m 62 #[.val (.long q1), .second, .val (.long q2), .second, .val (.long q3), .second, .val (.long q4), .second, .val (.int p5), .val (.int ga), .val (.int gt), .val (.int gm), .val (.int gs), .val (.int ra), .val (.int rt), .val (.int rm), .val (.int rs), .val (.int (0 : Int32)), .unset, .unset, .unset, .unset, .unset, .unset, .unset, .unset, .unset, .unset, .unset] []))
      exact J52 _
    · -- 52 False
      refine own_by (fun _ k => XS.ifNo X0.here hx rfl (hb hby at_52) rfl ((if0 _ _).trans (feq hc52_85).1) k) ?_
      show own_End p e below _ (s₁.setTop (mkF m 55 #[.val (.long q1), .second, .val (.long q2), .second, .val (.long q3), .second, .val (.long q4), .second, .val (.int p5), .val (.int ga), .val (.int gt), .val (.int gm), .val (.int gs), .val (.int ra), .val (.int rt), .val (.int rm), .val (.int rs), .unset, .unset, .unset, .unset, .unset, .unset, .unset, .unset, .unset, .unset, .unset, .unset] []))
      refine own_by (fun _ k => XS.iconst X0.here hx rfl (hb hby at_55) k) ?_
      show own_End p e below _ (s₁.setTop (mkF m 56 #[.val (.long q1), .second, .val (.long q2), .second, .val (.long q3), .second, .val (.long q4), .second, .val (.int p5), .val (.int ga), .val (.int gt), .val (.int gm), .val (.int gs), .val (.int ra), .val (.int rt), .val (.int rm), .val (.int rs), .unset, .unset, .unset, .unset, .unset, .unset, .unset, .unset, .unset, .unset, .unset, .unset] [(.int (1 : Int32))]))
      refine own_by (fun _ k => XS.goto X0.here hx rfl (pc0 := 56) (pc' := 60) rfl (hb hby at_56) (by decide) (by decide) k) ?_
      show own_End p e below _ (s₁.setTop (mkF m 60 #[.val (.long q1), .second, .val (.long q2), .second, .val (.long q3), .second, .val (.long q4), .second, .val (.int p5), .val (.int ga), .val (.int gt), .val (.int gm), .val (.int gs), .val (.int ra), .val (.int rt), .val (.int rm), .val (.int rs), .unset, .unset, .unset, .unset, .unset, .unset, .unset, .unset, .unset, .unset, .unset, .unset] [(.int (1 : Int32))]))
      refine own_by (fun _ k => XS.istore X0.here hx rfl (hb hby at_60) rfl (l' := #[.val (.long q1), .second, .val (.long q2), .second, .val (.long q3), .second, .val (.long q4), .second, .val (.int p5), .val (.int ga), .val (.int gt), .val (.int gm), .val (.int gs), .val (.int ra), .val (.int rt), .val (.int rm), .val (.int rs), .val (.int (1 : Int32)), .unset, .unset, .unset, .unset, .unset, .unset, .unset, .unset, .unset, .unset, .unset]) rfl k) ?_
      show own_End p e below _ (s₁.setTop (mkF m 62 #[.val (.long q1), .second, .val (.long q2), .second, .val (.long q3), .second, .val (.long q4), .second, .val (.int p5), .val (.int ga), .val (.int gt), .val (.int gm), .val (.int gs), .val (.int ra), .val (.int rt), .val (.int rm), .val (.int rs), .val (.int (1 : Int32)), .unset, .unset, .unset, .unset, .unset, .unset, .unset, .unset, .unset, .unset, .unset] []))
      exact J52 _
  intro f1
  show own_End p e below _ (s₁.setTop (mkF m 62 #[.val (.long q1), .second, .val (.long q2), .second, .val (.long q3), .second, .val (.long q4), .second, .val (.int p5), .val (.int ga), .val (.int gt), .val (.int gm), .val (.int gs), .val (.int ra), .val (.int rt), .val (.int rm), .val (.int rs), .val (.int f1), .unset, .unset, .unset, .unset, .unset, .unset, .unset, .unset, .unset, .unset, .unset] []))
  refine own_by (fun _ k => XS.iload X0.here hx rfl (hb hby at_62) rfl k) ?_
  show own_End p e below _ (s₁.setTop (mkF m 64 #[.val (.long q1), .second, .val (.long q2), .second, .val (.long q3), .second, .val (.long q4), .second, .val (.int p5), .val (.int ga), .val (.int gt), .val (.int gm), .val (.int gs), .val (.int ra), .val (.int rt), .val (.int rm), .val (.int rs), .val (.int f1), .unset, .unset, .unset, .unset, .unset, .unset, .unset, .unset, .unset, .unset, .unset] [(.int p5)]))
  refine own_by (fun _ k => XS.iconst X0.here hx rfl (hb hby at_64) k) ?_
  show own_End p e below _ (s₁.setTop (mkF m 65 #[.val (.long q1), .second, .val (.long q2), .second, .val (.long q3), .second, .val (.long q4), .second, .val (.int p5), .val (.int ga), .val (.int gt), .val (.int gm), .val (.int gs), .val (.int ra), .val (.int rt), .val (.int rm), .val (.int rs), .val (.int f1), .unset, .unset, .unset, .unset, .unset, .unset, .unset, .unset, .unset, .unset, .unset] [(.int (2 : Int32)), (.int p5)]))
  refine own_by (fun _ k => XS.iand X0.here hx rfl (hb hby at_65) rfl k) ?_
  show own_End p e below _ (s₁.setTop (mkF m 66 #[.val (.long q1), .second, .val (.long q2), .second, .val (.long q3), .second, .val (.long q4), .second, .val (.int p5), .val (.int ga), .val (.int gt), .val (.int gm), .val (.int gs), .val (.int ra), .val (.int rt), .val (.int rm), .val (.int rs), .val (.int f1), .unset, .unset, .unset, .unset, .unset, .unset, .unset, .unset, .unset, .unset, .unset] [(.int (p5 &&& (2 : Int32)))]))
  refine own_join (fun END => ∀ f2 : Int32, END (s₁.setTop (mkF m 76 #[.val (.long q1), .second, .val (.long q2), .second, .val (.long q3), .second, .val (.long q4), .second, .val (.int p5), .val (.int ga), .val (.int gt), .val (.int gm), .val (.int gs), .val (.int ra), .val (.int rt), .val (.int rm), .val (.int rs), .val (.int f1), .val (.int f2), .unset, .unset, .unset, .unset, .unset, .unset, .unset, .unset, .unset, .unset] []))) (fun J66 => ?_) ?_
  · -- the two ways
    show own_End p e below _ (s₁.setTop (mkF m 66 #[.val (.long q1), .second, .val (.long q2), .second, .val (.long q3), .second, .val (.long q4), .second, .val (.int p5), .val (.int ga), .val (.int gt), .val (.int gm), .val (.int gs), .val (.int ra), .val (.int rt), .val (.int rm), .val (.int rs), .val (.int f1), .unset, .unset, .unset, .unset, .unset, .unset, .unset, .unset, .unset, .unset, .unset] [(.int (p5 &&& (2 : Int32)))]))
    rcases Decidable.em ((p5 &&& (2 : Int32)) = (0 : Int32)) with hc66_86 | hc66_86
    · -- 66 True
      refine own_by (fun _ k => XS.ifYes X0.here hx rfl (pc0 := 66) (pc' := 73) rfl (hb hby at_66) rfl ((if0 _ _).trans (teq hc66_86).1) (by decide) (by decide) k) ?_
      show own_End p e below _ (s₁.setTop (mkF m 73 #[.val (.long q1), .second, .val (.long q2), .second, .val (.long q3), .second, .val (.long q4), .second, .val (.int p5), .val (.int ga), .val (.int gt), .val (.int gm), .val (.int gs), .val (.int ra), .val (.int rt), .val (.int rm), .val (.int rs), .val (.int f1), .unset, .unset, .unset, .unset, .unset, .unset, .unset, .unset, .unset, .unset, .unset] []))
      refine own_by (fun _ k => XS.iconst X0.here hx rfl (hb hby at_73) k) ?_
      show own_End p e below _ (s₁.setTop (mkF m 74 #[.val (.long q1), .second, .val (.long q2), .second, .val (.long q3), .second, .val (.long q4), .second, .val (.int p5), .val (.int ga), .val (.int gt), .val (.int gm), .val (.int gs), .val (.int ra), .val (.int rt), .val (.int rm), .val (.int rs), .val (.int f1), .unset, .unset, .unset, .unset, .unset, .unset, .unset, .unset, .unset, .unset, .unset] [(.int (0 : Int32))]))
      refine own_by (fun _ k => XS.istore X0.here hx rfl (hb hby at_74) rfl (l' := #[.val (.long q1), .second, .val (.long q2), .second, .val (.long q3), .second, .val (.long q4), .second, .val (.int p5), .val (.int ga), .val (.int gt), .val (.int gm), .val (.int gs), .val (.int ra), .val (.int rt), .val (.int rm), .val (.int rs), .val (.int f1), .val (.int (0 : Int32)), .unset, .unset, .unset, .unset, .unset, .unset, .unset, .unset, .unset, .unset]) rfl k) ?_
      show own_End p e below _ (s₁.setTop (mkF m 76 #[.val (.long q1), .second, .val (.long q2), .second, .val (.long q3), .second, .val (.long q4), .second, .val (.int p5), .val (.int ga), .val (.int gt), .val (.int gm), .val (.int gs), .val (.int ra), .val (.int rt), .val (.int rm), .val (.int rs), .val (.int f1), .val (.int (0 : Int32)), .unset, .unset, .unset, .unset, .unset, .unset, .unset, .unset, .unset, .unset] []))
      exact J66 _
    · -- 66 False
      refine own_by (fun _ k => XS.ifNo X0.here hx rfl (hb hby at_66) rfl ((if0 _ _).trans (feq hc66_86).1) k) ?_
      show own_End p e below _ (s₁.setTop (mkF m 69 #[.val (.long q1), .second, .val (.long q2), .second, .val (.long q3), .second, .val (.long q4), .second, .val (.int p5), .val (.int ga), .val (.int gt), .val (.int gm), .val (.int gs), .val (.int ra), .val (.int rt), .val (.int rm), .val (.int rs), .val (.int f1), .unset, .unset, .unset, .unset, .unset, .unset, .unset, .unset, .unset, .unset, .unset] []))
      refine own_by (fun _ k => XS.iconst X0.here hx rfl (hb hby at_69) k) ?_
      show own_End p e below _ (s₁.setTop (mkF m 70 #[.val (.long q1), .second, .val (.long q2), .second, .val (.long q3), .second, .val (.long q4), .second, .val (.int p5), .val (.int ga), .val (.int gt), .val (.int gm), .val (.int gs), .val (.int ra), .val (.int rt), .val (.int rm), .val (.int rs), .val (.int f1), .unset, .unset, .unset, .unset, .unset, .unset, .unset, .unset, .unset, .unset, .unset] [(.int (1 : Int32))]))
      refine own_by (fun _ k => XS.goto X0.here hx rfl (pc0 := 70) (pc' := 74) rfl (hb hby at_70) (by decide) (by decide) k) ?_
      show own_End p e below _ (s₁.setTop (mkF m 74 #[.val (.long q1), .second, .val (.long q2), .second, .val (.long q3), .second, .val (.long q4), .second, .val (.int p5), .val (.int ga), .val (.int gt), .val (.int gm), .val (.int gs), .val (.int ra), .val (.int rt), .val (.int rm), .val (.int rs), .val (.int f1), .unset, .unset, .unset, .unset, .unset, .unset, .unset, .unset, .unset, .unset, .unset] [(.int (1 : Int32))]))
      refine own_by (fun _ k => XS.istore X0.here hx rfl (hb hby at_74) rfl (l' := #[.val (.long q1), .second, .val (.long q2), .second, .val (.long q3), .second, .val (.long q4), .second, .val (.int p5), .val (.int ga), .val (.int gt), .val (.int gm), .val (.int gs), .val (.int ra), .val (.int rt), .val (.int rm), .val (.int rs), .val (.int f1), .val (.int (1 : Int32)), .unset, .unset, .unset, .unset, .unset, .unset, .unset, .unset, .unset, .unset]) rfl k) ?_
      show own_End p e below _ (s₁.setTop (mkF m 76 #[.val (.long q1), .second, .val (.long q2), .second, .val (.long q3), .second, .val (.long q4), .second, .val (.int p5), .val (.int ga), .val (.int gt), .val (.int gm), .val (.int gs), .val (.int ra), .val (.int rt), .val (.int rm), .val (.int rs), .val (.int f1), .val (.int (1 : Int32)), .unset, .unset, .unset, .unset, .unset, .unset, .unset, .unset, .unset, .unset] []))
      exact J66 _
  intro f2
  show own_End p e below _ (s₁.setTop (mkF m 76 #[.val (.long q1), .second, .val (.long q2), .second, .val (.long q3), .second, .val (.long q4), .second, .val (.int p5), .val (.int ga), .val (.int gt), .val (.int gm), .val (.int gs), .val (.int ra), .val (.int rt), .val (.int rm), .val (.int rs), .val (.int f1), .val (.int f2), .unset, .unset, .unset, .unset, .unset, .unset, .unset, .unset, .unset, .unset] []))
  refine own_by (fun _ k => XS.iload X0.here hx rfl (hb hby at_76) rfl k) ?_
  show own_End p e below _ (s₁.setTop (mkF m 78 #[.val (.long q1), .second, .val (.long q2), .second, .val (.long q3), .second, .val (.long q4), .second, .val (.int p5), .val (.int ga), .val (.int gt), .val (.int gm), .val (.int gs), .val (.int ra), .val (.int rt), .val (.int rm), .val (.int rs), .val (.int f1), .val (.int f2), .unset, .unset, .unset, .unset, .unset, .unset, .unset, .unset, .unset, .unset] [(.int p5)]))
  refine own_by (fun _ k => XS.iconst X0.here hx rfl (hb hby at_78) k) ?_
  show own_End p e below _ (s₁.setTop (mkF m 79 #[.val (.long q1), .second, .val (.long q2), .second, .val (.long q3), .second, .val (.long q4), .second, .val (.int p5), .val (.int ga), .val (.int gt), .val (.int gm), .val (.int gs), .val (.int ra), .val (.int rt), .val (.int rm), .val (.int rs), .val (.int f1), .val (.int f2), .unset, .unset, .unset, .unset, .unset, .unset, .unset, .unset, .unset, .unset] [(.int (4 : Int32)), (.int p5)]))
  refine own_by (fun _ k => XS.iand X0.here hx rfl (hb hby at_79) rfl k) ?_
  show own_End p e below _ (s₁.setTop (mkF m 80 #[.val (.long q1), .second, .val (.long q2), .second, .val (.long q3), .second, .val (.long q4), .second, .val (.int p5), .val (.int ga), .val (.int gt), .val (.int gm), .val (.int gs), .val (.int ra), .val (.int rt), .val (.int rm), .val (.int rs), .val (.int f1), .val (.int f2), .unset, .unset, .unset, .unset, .unset, .unset, .unset, .unset, .unset, .unset] [(.int (p5 &&& (4 : Int32)))]))
  refine own_join (fun END => ∀ f3 : Int32, END (s₁.setTop (mkF m 90 #[.val (.long q1), .second, .val (.long q2), .second, .val (.long q3), .second, .val (.long q4), .second, .val (.int p5), .val (.int ga), .val (.int gt), .val (.int gm), .val (.int gs), .val (.int ra), .val (.int rt), .val (.int rm), .val (.int rs), .val (.int f1), .val (.int f2), .val (.int f3), .unset, .unset, .unset, .unset, .unset, .unset, .unset, .unset, .unset] []))) (fun J80 => ?_) ?_
  · -- the two ways
    show own_End p e below _ (s₁.setTop (mkF m 80 #[.val (.long q1), .second, .val (.long q2), .second, .val (.long q3), .second, .val (.long q4), .second, .val (.int p5), .val (.int ga), .val (.int gt), .val (.int gm), .val (.int gs), .val (.int ra), .val (.int rt), .val (.int rm), .val (.int rs), .val (.int f1), .val (.int f2), .unset, .unset, .unset, .unset, .unset, .unset, .unset, .unset, .unset, .unset] [(.int (p5 &&& (4 : Int32)))]))
    rcases Decidable.em ((p5 &&& (4 : Int32)) = (0 : Int32)) with hc80_87 | hc80_87
    · -- 80 True
      refine own_by (fun _ k => XS.ifYes X0.here hx rfl (pc0 := 80) (pc' := 87) rfl (hb hby at_80) rfl ((if0 _ _).trans (teq hc80_87).1) (by decide) (by decide) k) ?_
      show own_End p e below _ (s₁.setTop (mkF m 87 #[.val (.long q1), .second, .val (.long q2), .second, .val (.long q3), .second, .val (.long q4), .second, .val (.int p5), .val (.int ga), .val (.int gt), .val (.int gm), .val (.int gs), .val (.int ra), .val (.int rt), .val (.int rm), .val (.int rs), .val (.int f1), .val (.int f2), .unset, .unset, .unset, .unset, .unset, .unset, .unset, .unset, .unset, .unset] []))
      refine own_by (fun _ k => XS.iconst X0.here hx rfl (hb hby at_87) k) ?_
      show own_End p e below _ (s₁.setTop (mkF m 88 #[.val (.long q1), .second, .val (.long q2), .second, .val (.long q3), .second, .val (.long q4), .second, .val (.int p5), .val (.int ga), .val (.int gt), .val (.int gm), .val (.int gs), .val (.int ra), .val (.int rt), .val (.int rm), .val (.int rs), .val (.int f1), .val (.int f2), .unset, .unset, .unset, .unset, .unset, .unset, .unset, .unset, .unset, .unset] [(.int (0 : Int32))]))
      refine own_by (fun _ k => XS.istore X0.here hx rfl (hb hby at_88) rfl (l' := #[.val (.long q1), .second, .val (.long q2), .second, .val (.long q3), .second, .val (.long q4), .second, .val (.int p5), .val (.int ga), .val (.int gt), .val (.int gm), .val (.int gs), .val (.int ra), .val (.int rt), .val (.int rm), .val (.int rs), .val (.int f1), .val (.int f2), .val (.int (0 : Int32)), .unset, .unset, .unset, .unset, .unset, .unset, .unset, .unset, .unset]) rfl k) ?_
      show own_End p e below _ (s₁.setTop (mkF m 90 #[.val (.long q1), .second, .val (.long q2), .second, .val (.long q3), .second, .val (.long q4), .second, .val (.int p5), .val (.int ga), .val (.int gt), .val (.int gm), .val (.int gs), .val (.int ra), .val (.int rt), .val (.int rm), .val (.int rs), .val (.int f1), .val (.int f2), .val (.int (0 : Int32)), .unset, .unset, .unset, .unset, .unset, .unset, .unset, .unset, .unset] []))
      exact J80 _
    · -- 80 False
      refine own_by (fun _ k => XS.ifNo X0.here hx rfl (hb hby at_80) rfl ((if0 _ _).trans (feq hc80_87).1) k) ?_
      show own_End p e below _ (s₁.setTop (mkF m 83 #[.val (.long q1), .second, .val (.long q2), .second, .val (.long q3), .second, .val (.long q4), .second, .val (.int p5), .val (.int ga), .val (.int gt), .val (.int gm), .val (.int gs), .val (.int ra), .val (.int rt), .val (.int rm), .val (.int rs), .val (.int f1), .val (.int f2), .unset, .unset, .unset, .unset, .unset, .unset, .unset, .unset, .unset, .unset] []))
      refine own_by (fun _ k => XS.iconst X0.here hx rfl (hb hby at_83) k) ?_
      show own_End p e below _ (s₁.setTop (mkF m 84 #[.val (.long q1), .second, .val (.long q2), .second, .val (.long q3), .second, .val (.long q4), .second, .val (.int p5), .val (.int ga), .val (.int gt), .val (.int gm), .val (.int gs), .val (.int ra), .val (.int rt), .val (.int rm), .val (.int rs), .val (.int f1), .val (.int f2), .unset, .unset, .unset, .unset, .unset, .unset, .unset, .unset, .unset, .unset] [(.int (1 : Int32))]))
      refine own_by (fun _ k => XS.goto X0.here hx rfl (pc0 := 84) (pc' := 88) rfl (hb hby at_84) (by decide) (by decide) k) ?_
      show own_End p e below _ (s₁.setTop (mkF m 88 #[.val (.long q1), .second, .val (.long q2), .second, .val (.long q3), .second, .val (.long q4), .second, .val (.int p5), .val (.int ga), .val (.int gt), .val (.int gm), .val (.int gs), .val (.int ra), .val (.int rt), .val (.int rm), .val (.int rs), .val (.int f1), .val (.int f2), .unset, .unset, .unset, .unset, .unset, .unset, .unset, .unset, .unset, .unset] [(.int (1 : Int32))]))
      refine own_by (fun _ k => XS.istore X0.here hx rfl (hb hby at_88) rfl (l' := #[.val (.long q1), .second, .val (.long q2), .second, .val (.long q3), .second, .val (.long q4), .second, .val (.int p5), .val (.int ga), .val (.int gt), .val (.int gm), .val (.int gs), .val (.int ra), .val (.int rt), .val (.int rm), .val (.int rs), .val (.int f1), .val (.int f2), .val (.int (1 : Int32)), .unset, .unset, .unset, .unset, .unset, .unset, .unset, .unset, .unset]) rfl k) ?_
      show own_End p e below _ (s₁.setTop (mkF m 90 #[.val (.long q1), .second, .val (.long q2), .second, .val (.long q3), .second, .val (.long q4), .second, .val (.int p5), .val (.int ga), .val (.int gt), .val (.int gm), .val (.int gs), .val (.int ra), .val (.int rt), .val (.int rm), .val (.int rs), .val (.int f1), .val (.int f2), .val (.int (1 : Int32)), .unset, .unset, .unset, .unset, .unset, .unset, .unset, .unset, .unset] []))
      exact J80 _
  intro f3
  show own_End p e below _ (s₁.setTop (mkF m 90 #[.val (.long q1), .second, .val (.long q2), .second, .val (.long q3), .second, .val (.long q4), .second, .val (.int p5), .val (.int ga), .val (.int gt), .val (.int gm), .val (.int gs), .val (.int ra), .val (.int rt), .val (.int rm), .val (.int rs), .val (.int f1), .val (.int f2), .val (.int f3), .unset, .unset, .unset, .unset, .unset, .unset, .unset, .unset, .unset] []))
  refine own_by (fun _ k => XS.iload X0.here hx rfl (hb hby at_90) rfl k) ?_
  show own_End p e below _ (s₁.setTop (mkF m 92 #[.val (.long q1), .second, .val (.long q2), .second, .val (.long q3), .second, .val (.long q4), .second, .val (.int p5), .val (.int ga), .val (.int gt), .val (.int gm), .val (.int gs), .val (.int ra), .val (.int rt), .val (.int rm), .val (.int rs), .val (.int f1), .val (.int f2), .val (.int f3), .unset, .unset, .unset, .unset, .unset, .unset, .unset, .unset, .unset] [(.int p5)]))
  refine own_by (fun _ k => XS.bipush X0.here hx rfl (hb hby at_92) k) ?_
  show own_End p e below _ (s₁.setTop (mkF m 94 #[.val (.long q1), .second, .val (.long q2), .second, .val (.long q3), .second, .val (.long q4), .second, .val (.int p5), .val (.int ga), .val (.int gt), .val (.int gm), .val (.int gs), .val (.int ra), .val (.int rt), .val (.int rm), .val (.int rs), .val (.int f1), .val (.int f2), .val (.int f3), .unset, .unset, .unset, .unset, .unset, .unset, .unset, .unset, .unset] [(.int (8 : Int32)), (.int p5)]))
  refine own_by (fun _ k => XS.iand X0.here hx rfl (hb hby at_94) rfl k) ?_
  show own_End p e below _ (s₁.setTop (mkF m 95 #[.val (.long q1), .second, .val (.long q2), .second, .val (.long q3), .second, .val (.long q4), .second, .val (.int p5), .val (.int ga), .val (.int gt), .val (.int gm), .val (.int gs), .val (.int ra), .val (.int rt), .val (.int rm), .val (.int rs), .val (.int f1), .val (.int f2), .val (.int f3), .unset, .unset, .unset, .unset, .unset, .unset, .unset, .unset, .unset] [(.int (p5 &&& (8 : Int32)))]))
  refine own_join (fun END => ∀ f4 : Int32, END (s₁.setTop (mkF m 105 #[.val (.long q1), .second, .val (.long q2), .second, .val (.long q3), .second, .val (.long q4), .second, .val (.int p5), .val (.int ga), .val (.int gt), .val (.int gm), .val (.int gs), .val (.int ra), .val (.int rt), .val (.int rm), .val (.int rs), .val (.int f1), .val (.int f2), .val (.int f3), .val (.int f4), .unset, .unset, .unset, .unset, .unset, .unset, .unset, .unset] []))) (fun J95 => ?_) ?_
  · -- the two ways
    show own_End p e below _ (s₁.setTop (mkF m 95 #[.val (.long q1), .second, .val (.long q2), .second, .val (.long q3), .second, .val (.long q4), .second, .val (.int p5), .val (.int ga), .val (.int gt), .val (.int gm), .val (.int gs), .val (.int ra), .val (.int rt), .val (.int rm), .val (.int rs), .val (.int f1), .val (.int f2), .val (.int f3), .unset, .unset, .unset, .unset, .unset, .unset, .unset, .unset, .unset] [(.int (p5 &&& (8 : Int32)))]))
    rcases Decidable.em ((p5 &&& (8 : Int32)) = (0 : Int32)) with hc95_88 | hc95_88
    · -- 95 True
      refine own_by (fun _ k => XS.ifYes X0.here hx rfl (pc0 := 95) (pc' := 102) rfl (hb hby at_95) rfl ((if0 _ _).trans (teq hc95_88).1) (by decide) (by decide) k) ?_
      show own_End p e below _ (s₁.setTop (mkF m 102 #[.val (.long q1), .second, .val (.long q2), .second, .val (.long q3), .second, .val (.long q4), .second, .val (.int p5), .val (.int ga), .val (.int gt), .val (.int gm), .val (.int gs), .val (.int ra), .val (.int rt), .val (.int rm), .val (.int rs), .val (.int f1), .val (.int f2), .val (.int f3), .unset, .unset, .unset, .unset, .unset, .unset, .unset, .unset, .unset] []))
      refine own_by (fun _ k => XS.iconst X0.here hx rfl (hb hby at_102) k) ?_
      show own_End p e below _ (s₁.setTop (mkF m 103 #[.val (.long q1), .second, .val (.long q2), .second, .val (.long q3), .second, .val (.long q4), .second, .val (.int p5), .val (.int ga), .val (.int gt), .val (.int gm), .val (.int gs), .val (.int ra), .val (.int rt), .val (.int rm), .val (.int rs), .val (.int f1), .val (.int f2), .val (.int f3), .unset, .unset, .unset, .unset, .unset, .unset, .unset, .unset, .unset] [(.int (0 : Int32))]))
      refine own_by (fun _ k => XS.istore X0.here hx rfl (hb hby at_103) rfl (l' := #[.val (.long q1), .second, .val (.long q2), .second, .val (.long q3), .second, .val (.long q4), .second, .val (.int p5), .val (.int ga), .val (.int gt), .val (.int gm), .val (.int gs), .val (.int ra), .val (.int rt), .val (.int rm), .val (.int rs), .val (.int f1), .val (.int f2), .val (.int f3), .val (.int (0 : Int32)), .unset, .unset, .unset, .unset, .unset, .unset, .unset, .unset]) rfl k) ?_
      show own_End p e below _ (s₁.setTop (mkF m 105 #[.val (.long q1), .second, .val (.long q2), .second, .val (.long q3), .second, .val (.long q4), .second, .val (.int p5), .val (.int ga), .val (.int gt), .val (.int gm), .val (.int gs), .val (.int ra), .val (.int rt), .val (.int rm), .val (.int rs), .val (.int f1), .val (.int f2), .val (.int f3), .val (.int (0 : Int32)), .unset, .unset, .unset, .unset, .unset, .unset, .unset, .unset] []))
      exact J95 _
    · -- 95 False
      refine own_by (fun _ k => XS.ifNo X0.here hx rfl (hb hby at_95) rfl ((if0 _ _).trans (feq hc95_88).1) k) ?_
      show own_End p e below _ (s₁.setTop (mkF m 98 #[.val (.long q1), .second, .val (.long q2), .second, .val (.long q3), .second, .val (.long q4), .second, .val (.int p5), .val (.int ga), .val (.int gt), .val (.int gm), .val (.int gs), .val (.int ra), .val (.int rt), .val (.int rm), .val (.int rs), .val (.int f1), .val (.int f2), .val (.int f3), .unset, .unset, .unset, .unset, .unset, .unset, .unset, .unset, .unset] []))
      refine own_by (fun _ k => XS.iconst X0.here hx rfl (hb hby at_98) k) ?_
      show own_End p e below _ (s₁.setTop (mkF m 99 #[.val (.long q1), .second, .val (.long q2), .second, .val (.long q3), .second, .val (.long q4), .second, .val (.int p5), .val (.int ga), .val (.int gt), .val (.int gm), .val (.int gs), .val (.int ra), .val (.int rt), .val (.int rm), .val (.int rs), .val (.int f1), .val (.int f2), .val (.int f3), .unset, .unset, .unset, .unset, .unset, .unset, .unset, .unset, .unset] [(.int (1 : Int32))]))
      refine own_by (fun _ k => XS.goto X0.here hx rfl (pc0 := 99) (pc' := 103) rfl (hb hby at_99) (by decide) (by decide) k) ?_
      show own_End p e below _ (s₁.setTop (mkF m 103 #[.val (.long q1), .second, .val (.long q2), .second, .val (.long q3), .second, .val (.long q4), .second, .val (.int p5), .val (.int ga), .val (.int gt), .val (.int gm), .val (.int gs), .val (.int ra), .val (.int rt), .val (.int rm), .val (.int rs), .val (.int f1), .val (.int f2), .val (.int f3), .unset, .unset, .unset, .unset, .unset, .unset, .unset, .unset, .unset] [(.int (1 : Int32))]))
      refine own_by (fun _ k => XS.istore X0.here hx rfl (hb hby at_103) rfl (l' := #[.val (.long q1), .second, .val (.long q2), .second, .val (.long q3), .second, .val (.long q4), .second, .val (.int p5), .val (.int ga), .val (.int gt), .val (.int gm), .val (.int gs), .val (.int ra), .val (.int rt), .val (.int rm), .val (.int rs), .val (.int f1), .val (.int f2), .val (.int f3), .val (.int (1 : Int32)), .unset, .unset, .unset, .unset, .unset, .unset, .unset, .unset]) rfl k) ?_
      show own_End p e below _ (s₁.setTop (mkF m 105 #[.val (.long q1), .second, .val (.long q2), .second, .val (.long q3), .second, .val (.long q4), .second, .val (.int p5), .val (.int ga), .val (.int gt), .val (.int gm), .val (.int gs), .val (.int ra), .val (.int rt), .val (.int rm), .val (.int rs), .val (.int f1), .val (.int f2), .val (.int f3), .val (.int (1 : Int32)), .unset, .unset, .unset, .unset, .unset, .unset, .unset, .unset] []))
      exact J95 _
  intro f4
  show own_End p e below _ (s₁.setTop (mkF m 105 #[.val (.long q1), .second, .val (.long q2), .second, .val (.long q3), .second, .val (.long q4), .second, .val (.int p5), .val (.int ga), .val (.int gt), .val (.int gm), .val (.int gs), .val (.int ra), .val (.int rt), .val (.int rm), .val (.int rs), .val (.int f1), .val (.int f2), .val (.int f3), .val (.int f4), .unset, .unset, .unset, .unset, .unset, .unset, .unset, .unset] []))
  refine own_by (fun _ k => XS.iload X0.here hx rfl (hb hby at_105) rfl k) ?_
  show own_End p e below _ (s₁.setTop (mkF m 107 #[.val (.long q1), .second, .val (.long q2), .second, .val (.long q3), .second, .val (.long q4), .second, .val (.int p5), .val (.int ga), .val (.int gt), .val (.int gm), .val (.int gs), .val (.int ra), .val (.int rt), .val (.int rm), .val (.int rs), .val (.int f1), .val (.int f2), .val (.int f3), .val (.int f4), .unset, .unset, .unset, .unset, .unset, .unset, .unset, .unset] [(.int p5)]))
  refine own_by (fun _ k => XS.bipush X0.here hx rfl (hb hby at_107) k) ?_
  show own_End p e below _ (s₁.setTop (mkF m 109 #[.val (.long q1), .second, .val (.long q2), .second, .val (.long q3), .second, .val (.long q4), .second, .val (.int p5), .val (.int ga), .val (.int gt), .val (.int gm), .val (.int gs), .val (.int ra), .val (.int rt), .val (.int rm), .val (.int rs), .val (.int f1), .val (.int f2), .val (.int f3), .val (.int f4), .unset, .unset, .unset, .unset, .unset, .unset, .unset, .unset] [(.int (16 : Int32)), (.int p5)]))
  refine own_by (fun _ k => XS.iand X0.here hx rfl (hb hby at_109) rfl k) ?_
  show own_End p e below _ (s₁.setTop (mkF m 110 #[.val (.long q1), .second, .val (.long q2), .second, .val (.long q3), .second, .val (.long q4), .second, .val (.int p5), .val (.int ga), .val (.int gt), .val (.int gm), .val (.int gs), .val (.int ra), .val (.int rt), .val (.int rm), .val (.int rs), .val (.int f1), .val (.int f2), .val (.int f3), .val (.int f4), .unset, .unset, .unset, .unset, .unset, .unset, .unset, .unset] [(.int (p5 &&& (16 : Int32)))]))
  rcases Decidable.em ((p5 &&& (16 : Int32)) = (0 : Int32)) with hc110_89 | hc110_89
  · -- 110 True
    refine own_by (fun _ k => XS.ifYes X0.here hx rfl (pc0 := 110) (pc' := 117) rfl (hb hby at_110) rfl ((if0 _ _).trans (teq hc110_89).1) (by decide) (by decide) k) ?_
    show own_End p e below _ (s₁.setTop (mkF m 117 #[.val (.long q1), .second, .val (.long q2), .second, .val (.long q3), .second, .val (.long q4), .second, .val (.int p5), .val (.int ga), .val (.int gt), .val (.int gm), .val (.int gs), .val (.int ra), .val (.int rt), .val (.int rm), .val (.int rs), .val (.int f1), .val (.int f2), .val (.int f3), .val (.int f4), .unset, .unset, .unset, .unset, .unset, .unset, .unset, .unset] []))
    refine own_by (fun _ k => XS.iconst X0.here hx rfl (hb hby at_117) k) ?_
    show own_End p e below _ (s₁.setTop (mkF m 118 #[.val (.long q1), .second, .val (.long q2), .second, .val (.long q3), .second, .val (.long q4), .second, .val (.int p5), .val (.int ga), .val (.int gt), .val (.int gm), .val (.int gs), .val (.int ra), .val (.int rt), .val (.int rm), .val (.int rs), .val (.int f1), .val (.int f2), .val (.int f3), .val (.int f4), .unset, .unset, .unset, .unset, .unset, .unset, .unset, .unset] [(.int (0 : Int32))]))
    refine own_by (fun _ k => XS.istore X0.here hx rfl (hb hby at_118) rfl (l' := #[.val (.long q1), .second, .val (.long q2), .second, .val (.long q3), .second, .val (.long q4), .second, .val (.int p5), .val (.int ga), .val (.int gt), .val (.int gm), .val (.int gs), .val (.int ra), .val (.int rt), .val (.int rm), .val (.int rs), .val (.int f1), .val (.int f2), .val (.int f3), .val (.int f4), .val (.int (0 : Int32)), .unset, .unset, .unset, .unset, .unset, .unset, .unset]) rfl k) ?_
    show own_End p e below _ (s₁.setTop (mkF m 120 #[.val (.long q1), .second, .val (.long q2), .second, .val (.long q3), .second, .val (.long q4), .second, .val (.int p5), .val (.int ga), .val (.int gt), .val (.int gm), .val (.int gs), .val (.int ra), .val (.int rt), .val (.int rm), .val (.int rs), .val (.int f1), .val (.int f2), .val (.int f3), .val (.int f4), .val (.int (0 : Int32)), .unset, .unset, .unset, .unset, .unset, .unset, .unset] []))
    refine own_by (fun _ k => XS.iload X0.here hx rfl (hb hby at_120) rfl k) ?_
    show own_End p e below _ (s₁.setTop (mkF m 122 #[.val (.long q1), .second, .val (.long q2), .second, .val (.long q3), .second, .val (.long q4), .second, .val (.int p5), .val (.int ga), .val (.int gt), .val (.int gm), .val (.int gs), .val (.int ra), .val (.int rt), .val (.int rm), .val (.int rs), .val (.int f1), .val (.int f2), .val (.int f3), .val (.int f4), .val (.int (0 : Int32)), .unset, .unset, .unset, .unset, .unset, .unset, .unset] [(.int (0 : Int32))]))
    refine own_by (fun _ k => XS.ifYes X0.here hx rfl (pc0 := 122) (pc' := 129) rfl (hb hby at_122) rfl ((if0 _ _).trans (teq (by decide)).1) (by decide) (by decide) k) ?_
    show own_End p e below _ (s₁.setTop (mkF m 129 #[.val (.long q1), .second, .val (.long q2), .second, .val (.long q3), .second, .val (.long q4), .second, .val (.int p5), .val (.int ga), .val (.int gt), .val (.int gm), .val (.int gs), .val (.int ra), .val (.int rt), .val (.int rm), .val (.int rs), .val (.int f1), .val (.int f2), .val (.int f3), .val (.int f4), .val (.int (0 : Int32)), .unset, .unset, .unset, .unset, .unset, .unset, .unset] []))
    obtain ⟨T90, h90, X90, e90, E90, A90, D90, -, st90⟩ := newO X0 hx hZ hown (hw _ (List.mem_of_getElem? (i := 0) rfl)) (hw _ (List.mem_of_getElem? (i := 1) rfl)) (hw _ (List.mem_of_getElem? (i := 2) rfl)) e0 (g := (mkF m 129 #[.val (.long q1), .second, .val (.long q2), .second, .val (.long q3), .second, .val (.long q4), .second, .val (.int p5), .val (.int ga), .val (.int gt), .val (.int gm), .val (.int gs), .val (.int ra), .val (.int rt), .val (.int rm), .val (.int rs), .val (.int f1), .val (.int f2), .val (.int f3), .val (.int f4), .val (.int (0 : Int32)), .unset, .unset, .unset, .unset, .unset, .unset, .unset] [])) rfl (hb hby at_129) (by decide) (by decide)
    obtain ⟨b90, g90⟩ : ∃ z, z = h0.size := ⟨_, rfl⟩
    rw [← g90] at A90 D90 st90
    have g_b90 : Z.heap.size ≤ b90 := Nat.le_trans O.1 (Nat.le_of_eq g90.symm)
    have F90_admitPerTick : Fld Z h90 b90 "com/example/hongdae/hongdae/sale/WaitingRoom" "admitPerTick" "I" (.int (0 : Int32)) := D90 (Or.inr (hw _ (List.mem_of_getElem? (i := 15) rfl))) (ty := .int) (by decide)
    have F90_tickSeconds : Fld Z h90 b90 "com/example/hongdae/hongdae/sale/WaitingRoom" "tickSeconds" "I" (.int (0 : Int32)) := D90 (Or.inr (hw _ (List.mem_of_getElem? (i := 17) rfl))) (ty := .int) (by decide)
    have F90_maxActive : Fld Z h90 b90 "com/example/hongdae/hongdae/sale/WaitingRoom" "maxActive" "I" (.int (0 : Int32)) := D90 (Or.inr (hw _ (List.mem_of_getElem? (i := 19) rfl))) (ty := .int) (by decide)
    have F90_activeSeconds : Fld Z h90 b90 "com/example/hongdae/hongdae/sale/WaitingRoom" "activeSeconds" "I" (.int (0 : Int32)) := D90 (Or.inr (hw _ (List.mem_of_getElem? (i := 21) rfl))) (ty := .int) (by decide)
    refine own_by st90 ?_
    show own_End p e below _ (T90.setTop (mkF m 132 #[.val (.long q1), .second, .val (.long q2), .second, .val (.long q3), .second, .val (.long q4), .second, .val (.int p5), .val (.int ga), .val (.int gt), .val (.int gm), .val (.int gs), .val (.int ra), .val (.int rt), .val (.int rm), .val (.int rs), .val (.int f1), .val (.int f2), .val (.int f3), .val (.int f4), .val (.int (0 : Int32)), .unset, .unset, .unset, .unset, .unset, .unset, .unset] [(.ref b90)]))
    refine own_by (fun _ k => XS.dup X90.here hx rfl (hb hby at_132) rfl rfl k) ?_
    show own_End p e below _ (T90.setTop (mkF m 133 #[.val (.long q1), .second, .val (.long q2), .second, .val (.long q3), .second, .val (.long q4), .second, .val (.int p5), .val (.int ga), .val (.int gt), .val (.int gm), .val (.int gs), .val (.int ra), .val (.int rt), .val (.int rm), .val (.int rs), .val (.int f1), .val (.int f2), .val (.int f3), .val (.int f4), .val (.int (0 : Int32)), .unset, .unset, .unset, .unset, .unset, .unset, .unset] [(.ref b90), (.ref b90)]))
    refine own_by (fun _ k => XS.iload X90.here hx rfl (hb hby at_133) rfl k) ?_
    show own_End p e below _ (T90.setTop (mkF m 135 #[.val (.long q1), .second, .val (.long q2), .second, .val (.long q3), .second, .val (.long q4), .second, .val (.int p5), .val (.int ga), .val (.int gt), .val (.int gm), .val (.int gs), .val (.int ra), .val (.int rt), .val (.int rm), .val (.int rs), .val (.int f1), .val (.int f2), .val (.int f3), .val (.int f4), .val (.int (0 : Int32)), .unset, .unset, .unset, .unset, .unset, .unset, .unset] [(.int ra), (.ref b90), (.ref b90)]))
    refine own_by (fun _ k => XS.iload X90.here hx rfl (hb hby at_135) rfl k) ?_
    show own_End p e below _ (T90.setTop (mkF m 137 #[.val (.long q1), .second, .val (.long q2), .second, .val (.long q3), .second, .val (.long q4), .second, .val (.int p5), .val (.int ga), .val (.int gt), .val (.int gm), .val (.int gs), .val (.int ra), .val (.int rt), .val (.int rm), .val (.int rs), .val (.int f1), .val (.int f2), .val (.int f3), .val (.int f4), .val (.int (0 : Int32)), .unset, .unset, .unset, .unset, .unset, .unset, .unset] [(.int rt), (.int ra), (.ref b90), (.ref b90)]))
    refine own_by (fun _ k => XS.iload X90.here hx rfl (hb hby at_137) rfl k) ?_
    show own_End p e below _ (T90.setTop (mkF m 139 #[.val (.long q1), .second, .val (.long q2), .second, .val (.long q3), .second, .val (.long q4), .second, .val (.int p5), .val (.int ga), .val (.int gt), .val (.int gm), .val (.int gs), .val (.int ra), .val (.int rt), .val (.int rm), .val (.int rs), .val (.int f1), .val (.int f2), .val (.int f3), .val (.int f4), .val (.int (0 : Int32)), .unset, .unset, .unset, .unset, .unset, .unset, .unset] [(.int rm), (.int rt), (.int ra), (.ref b90), (.ref b90)]))
    refine own_by (fun _ k => XS.iload X90.here hx rfl (hb hby at_139) rfl k) ?_
    show own_End p e below _ (T90.setTop (mkF m 141 #[.val (.long q1), .second, .val (.long q2), .second, .val (.long q3), .second, .val (.long q4), .second, .val (.int p5), .val (.int ga), .val (.int gt), .val (.int gm), .val (.int gs), .val (.int ra), .val (.int rt), .val (.int rm), .val (.int rs), .val (.int f1), .val (.int f2), .val (.int f3), .val (.int f4), .val (.int (0 : Int32)), .unset, .unset, .unset, .unset, .unset, .unset, .unset] [(.int rs), (.int rm), (.int rt), (.int ra), (.ref b90), (.ref b90)]))
    obtain ⟨_, _, ⟨T91, L91, k91, n91⟩, -, X91, ⟨Lc91, hQ91, l91, y91, z91⟩, st91⟩ := X90.specialBack hx (y := (⟨"com/example/hongdae/hongdae/sale/WaitingRoom", "<init>", "(IIII)V"⟩ : MethodName)) rfl hown (mvT hZ (hw _ (List.mem_of_getElem? (i := 3) rfl))) (mvT hZ (hw _ (List.mem_of_getElem? (i := 4) rfl))) (mvT hZ (hw _ (List.mem_of_getElem? (i := 5) rfl))) (by decide) (own_back (W := 1) (own_wri l Z a0 hw [] b90 ra rt rm rs h90 n0 h0 E90 (Nat.le_of_eq g90.symm) Z0 g_b90 A90 F90_admitPerTick F90_tickSeconds F90_maxActive F90_activeSeconds) hZ (hw _ (List.mem_of_getElem? (i := 5) rfl)) (hw _ (List.mem_of_getElem? (i := 2) rfl)) (by decide) (by decide)) (g := (mkF m 141 #[.val (.long q1), .second, .val (.long q2), .second, .val (.long q3), .second, .val (.long q4), .second, .val (.int p5), .val (.int ga), .val (.int gt), .val (.int gm), .val (.int gs), .val (.int ra), .val (.int rt), .val (.int rm), .val (.int rs), .val (.int f1), .val (.int f2), .val (.int f3), .val (.int f4), .val (.int (0 : Int32)), .unset, .unset, .unset, .unset, .unset, .unset, .unset] [(.int rs), (.int rm), (.int rt), (.int ra), (.ref b90), (.ref b90)])) rfl (by rw [hml]; rfl) (Steps.refl _) (a := b90) (argsL := [(.int ra), (.int rt), (.int rm), (.int rs)]) (rest := [(.ref b90)]) (lenOf own_pd6 rfl) rfl (by show 2 * 0 + _ ≤ _; exact Nat.le_of_eq rfl) (hb hby at_141) (fun _ _ => ⟨rfl, e90, (by decide : 1 + 0 ≤ _), (by decide : 4 + 0 ≤ _)⟩)
    dsimp only [Pt.U, Pt.locs, Pt.cells, Pt.slots] at X91 l91 y91 z91 st91 hQ91
    subst l91 y91 z91
    obtain ⟨rfl, N91q, Ob91, Kp91, Fm91⟩ := hQ91
    have N91 := Fr.app N0 N91q
    refine own_by (fun _ k => st91.trans k) ?_
    have O91 := own_ext O Ob91
    show own_End p e below _ (T91.setTop (mkF m 144 #[.val (.long q1), .second, .val (.long q2), .second, .val (.long q3), .second, .val (.long q4), .second, .val (.int p5), .val (.int ga), .val (.int gt), .val (.int gm), .val (.int gs), .val (.int ra), .val (.int rt), .val (.int rm), .val (.int rs), .val (.int f1), .val (.int f2), .val (.int f3), .val (.int f4), .val (.int (0 : Int32)), .unset, .unset, .unset, .unset, .unset, .unset, .unset] [(.ref b90)]))
    refine own_by (fun _ k => XS.astore X91.here hx rfl (hb hby at_144) rfl rfl (l' := #[.val (.long q1), .second, .val (.long q2), .second, .val (.long q3), .second, .val (.long q4), .second, .val (.int p5), .val (.int ga), .val (.int gt), .val (.int gm), .val (.int gs), .val (.int ra), .val (.int rt), .val (.int rm), .val (.int rs), .val (.int f1), .val (.int f2), .val (.int f3), .val (.int f4), .val (.int (0 : Int32)), .val (.ref b90), .unset, .unset, .unset, .unset, .unset, .unset]) rfl k) ?_
    show own_End p e below _ (T91.setTop (mkF m 146 #[.val (.long q1), .second, .val (.long q2), .second, .val (.long q3), .second, .val (.long q4), .second, .val (.int p5), .val (.int ga), .val (.int gt), .val (.int gm), .val (.int gs), .val (.int ra), .val (.int rt), .val (.int rm), .val (.int rs), .val (.int f1), .val (.int f2), .val (.int f3), .val (.int f4), .val (.int (0 : Int32)), .val (.ref b90), .unset, .unset, .unset, .unset, .unset, .unset] []))
    refine own_by (fun _ k => XS.iload X91.here hx rfl (hb hby at_146) rfl k) ?_
    show own_End p e below _ (T91.setTop (mkF m 148 #[.val (.long q1), .second, .val (.long q2), .second, .val (.long q3), .second, .val (.long q4), .second, .val (.int p5), .val (.int ga), .val (.int gt), .val (.int gm), .val (.int gs), .val (.int ra), .val (.int rt), .val (.int rm), .val (.int rs), .val (.int f1), .val (.int f2), .val (.int f3), .val (.int f4), .val (.int (0 : Int32)), .val (.ref b90), .unset, .unset, .unset, .unset, .unset, .unset] [(.int f1)]))
    refine own_join (fun END => ∀ (Tj92 : State) (lj92 : List Loc) (hj92 : Heap) (v1 : Value), Stand p l e room_1 s m #[(.long q1), (.long q2), (.long q3), (.long q4), (.int p5)] below meth c Tj92 lj92 2 5 → Tj92.heap = hj92 → Ext T91.heap hj92 → Fr n0 lj92 → own_IV Z hj92 f1 ga v1 → END (Tj92.setTop (mkF m 162 #[.val (.long q1), .second, .val (.long q2), .second, .val (.long q3), .second, .val (.long q4), .second, .val (.int p5), .val (.int ga), .val (.int gt), .val (.int gm), .val (.int gs), .val (.int ra), .val (.int rt), .val (.int rm), .val (.int rs), .val (.int f1), .val (.int f2), .val (.int f3), .val (.int f4), .val (.int (0 : Int32)), .val (.ref b90), .val v1, .unset, .unset, .unset, .unset, .unset] []))) (fun J92 => ?_) ?_
    · -- the two ways
      show own_End p e below _ (T91.setTop (mkF m 148 #[.val (.long q1), .second, .val (.long q2), .second, .val (.long q3), .second, .val (.long q4), .second, .val (.int p5), .val (.int ga), .val (.int gt), .val (.int gm), .val (.int gs), .val (.int ra), .val (.int rt), .val (.int rm), .val (.int rs), .val (.int f1), .val (.int f2), .val (.int f3), .val (.int f4), .val (.int (0 : Int32)), .val (.ref b90), .unset, .unset, .unset, .unset, .unset, .unset] [(.int f1)]))
      rcases Decidable.em (f1 = (0 : Int32)) with hc148_93 | hc148_93
      · -- 148 True
        refine own_by (fun _ k => XS.ifYes X91.here hx rfl (pc0 := 148) (pc' := 155) rfl (hb hby at_148) rfl ((if0 _ _).trans (teq hc148_93).1) (by decide) (by decide) k) ?_
        show own_End p e below _ (T91.setTop (mkF m 155 #[.val (.long q1), .second, .val (.long q2), .second, .val (.long q3), .second, .val (.long q4), .second, .val (.int p5), .val (.int ga), .val (.int gt), .val (.int gm), .val (.int gs), .val (.int ra), .val (.int rt), .val (.int rm), .val (.int rs), .val (.int f1), .val (.int f2), .val (.int f3), .val (.int f4), .val (.int (0 : Int32)), .val (.ref b90), .unset, .unset, .unset, .unset, .unset, .unset] []))
        refine own_by (fun _ k => XS.iload X91.here hx rfl (hb hby at_155) rfl k) ?_
        show own_End p e below _ (T91.setTop (mkF m 157 #[.val (.long q1), .second, .val (.long q2), .second, .val (.long q3), .second, .val (.long q4), .second, .val (.int p5), .val (.int ga), .val (.int gt), .val (.int gm), .val (.int gs), .val (.int ra), .val (.int rt), .val (.int rm), .val (.int rs), .val (.int f1), .val (.int f2), .val (.int f3), .val (.int f4), .val (.int (0 : Int32)), .val (.ref b90), .unset, .unset, .unset, .unset, .unset, .unset] [(.int ga)]))
        obtain ⟨_, _, ⟨T94, L94, k94, n94⟩, -, X94, ⟨Lc94, hQ94, l94, y94, z94⟩, st94⟩ := Jvm.LawKit.callS X91 hx (y := (⟨"java/lang/Integer", "valueOf", "(I)Ljava/lang/Integer;"⟩ : MethodName)) hown (mvT hZ (hw _ (List.mem_of_getElem? (i := 22) rfl))) (mvT hZ (hw _ (List.mem_of_getElem? (i := 23) rfl))) (mvT hZ (hw _ (List.mem_of_getElem? (i := 24) rfl))) (mvT hZ (hw _ (List.mem_of_getElem? (i := 25) rfl))) (by decide) (own_back (W := 0) (own_vof l Z a0 hw [] ga T91.heap n0 Z0 O91 hC) hZ (hw _ (List.mem_of_getElem? (i := 25) rfl)) (hw _ (List.mem_of_getElem? (i := 24) rfl)) (by decide) (by decide)) (g := (mkF m 157 #[.val (.long q1), .second, .val (.long q2), .second, .val (.long q3), .second, .val (.long q4), .second, .val (.int p5), .val (.int ga), .val (.int gt), .val (.int gm), .val (.int gs), .val (.int ra), .val (.int rt), .val (.int rm), .val (.int rs), .val (.int f1), .val (.int f2), .val (.int f3), .val (.int f4), .val (.int (0 : Int32)), .val (.ref b90), .unset, .unset, .unset, .unset, .unset, .unset] [(.int ga)])) rfl (by rw [hml]; rfl) (argsL := [(.int ga)]) (rest := []) (lenOf own_pd4 rfl) rfl (by show 2 * 0 + _ ≤ _; exact Nat.le_of_eq rfl) (hb hby at_157) (fun _ _ => ⟨rfl, rfl, (by decide : 1 + 1 ≤ _), (by decide : 4 + 1 ≤ _)⟩)
        dsimp only [Pt.U, Pt.locs, Pt.cells, Pt.slots] at X94 l94 y94 z94 st94 hQ94
        subst l94 y94 z94
        obtain ⟨d1, rfl, N94q, Ob94, Ee94, Ff94⟩ := hQ94
        have N94 := Fr.app N91 N94q
        refine own_by st94 ?_
        have O94 := own_ext O91 Ob94
        have base_94 := Fm91.ext Ob94
        show own_End p e below _ (T94.setTop (mkF m 160 #[.val (.long q1), .second, .val (.long q2), .second, .val (.long q3), .second, .val (.long q4), .second, .val (.int p5), .val (.int ga), .val (.int gt), .val (.int gm), .val (.int gs), .val (.int ra), .val (.int rt), .val (.int rm), .val (.int rs), .val (.int f1), .val (.int f2), .val (.int f3), .val (.int f4), .val (.int (0 : Int32)), .val (.ref b90), .unset, .unset, .unset, .unset, .unset, .unset] [(.ref d1)]))
        refine own_by (fun _ k => XS.astore X94.here hx rfl (hb hby at_160) rfl rfl (l' := #[.val (.long q1), .second, .val (.long q2), .second, .val (.long q3), .second, .val (.long q4), .second, .val (.int p5), .val (.int ga), .val (.int gt), .val (.int gm), .val (.int gs), .val (.int ra), .val (.int rt), .val (.int rm), .val (.int rs), .val (.int f1), .val (.int f2), .val (.int f3), .val (.int f4), .val (.int (0 : Int32)), .val (.ref b90), .val (.ref d1), .unset, .unset, .unset, .unset, .unset]) rfl k) ?_
        show own_End p e below _ (T94.setTop (mkF m 162 #[.val (.long q1), .second, .val (.long q2), .second, .val (.long q3), .second, .val (.long q4), .second, .val (.int p5), .val (.int ga), .val (.int gt), .val (.int gm), .val (.int gs), .val (.int ra), .val (.int rt), .val (.int rm), .val (.int rs), .val (.int f1), .val (.int f2), .val (.int f3), .val (.int f4), .val (.int (0 : Int32)), .val (.ref b90), .val (.ref d1), .unset, .unset, .unset, .unset, .unset] []))
        exact J92 _ _ _ _ (X94.more (by decide) (by decide)) rfl Ob94 N94 (Or.inl ⟨hc148_93, _, rfl, Ee94, Ff94⟩)
      · -- 148 False
        refine own_by (fun _ k => XS.ifNo X91.here hx rfl (hb hby at_148) rfl ((if0 _ _).trans (feq hc148_93).1) k) ?_
        show own_End p e below _ (T91.setTop (mkF m 151 #[.val (.long q1), .second, .val (.long q2), .second, .val (.long q3), .second, .val (.long q4), .second, .val (.int p5), .val (.int ga), .val (.int gt), .val (.int gm), .val (.int gs), .val (.int ra), .val (.int rt), .val (.int rm), .val (.int rs), .val (.int f1), .val (.int f2), .val (.int f3), .val (.int f4), .val (.int (0 : Int32)), .val (.ref b90), .unset, .unset, .unset, .unset, .unset, .unset] []))
        refine own_by (fun _ k => XS.aconstNull X91.here hx rfl (hb hby at_151) k) ?_
        show own_End p e below _ (T91.setTop (mkF m 152 #[.val (.long q1), .second, .val (.long q2), .second, .val (.long q3), .second, .val (.long q4), .second, .val (.int p5), .val (.int ga), .val (.int gt), .val (.int gm), .val (.int gs), .val (.int ra), .val (.int rt), .val (.int rm), .val (.int rs), .val (.int f1), .val (.int f2), .val (.int f3), .val (.int f4), .val (.int (0 : Int32)), .val (.ref b90), .unset, .unset, .unset, .unset, .unset, .unset] [.null]))
        refine own_by (fun _ k => XS.goto X91.here hx rfl (pc0 := 152) (pc' := 160) rfl (hb hby at_152) (by decide) (by decide) k) ?_
        show own_End p e below _ (T91.setTop (mkF m 160 #[.val (.long q1), .second, .val (.long q2), .second, .val (.long q3), .second, .val (.long q4), .second, .val (.int p5), .val (.int ga), .val (.int gt), .val (.int gm), .val (.int gs), .val (.int ra), .val (.int rt), .val (.int rm), .val (.int rs), .val (.int f1), .val (.int f2), .val (.int f3), .val (.int f4), .val (.int (0 : Int32)), .val (.ref b90), .unset, .unset, .unset, .unset, .unset, .unset] [.null]))
        refine own_by (fun _ k => XS.astore X91.here hx rfl (hb hby at_160) rfl rfl (l' := #[.val (.long q1), .second, .val (.long q2), .second, .val (.long q3), .second, .val (.long q4), .second, .val (.int p5), .val (.int ga), .val (.int gt), .val (.int gm), .val (.int gs), .val (.int ra), .val (.int rt), .val (.int rm), .val (.int rs), .val (.int f1), .val (.int f2), .val (.int f3), .val (.int f4), .val (.int (0 : Int32)), .val (.ref b90), .val .null, .unset, .unset, .unset, .unset, .unset]) rfl k) ?_
        show own_End p e below _ (T91.setTop (mkF m 162 #[.val (.long q1), .second, .val (.long q2), .second, .val (.long q3), .second, .val (.long q4), .second, .val (.int p5), .val (.int ga), .val (.int gt), .val (.int gm), .val (.int gs), .val (.int ra), .val (.int rt), .val (.int rm), .val (.int rs), .val (.int f1), .val (.int f2), .val (.int f3), .val (.int f4), .val (.int (0 : Int32)), .val (.ref b90), .val .null, .unset, .unset, .unset, .unset, .unset] []))
        exact J92 _ _ _ _ (X91.more (by decide) (by decide)) rfl ⟨Nat.le_refl _, fun _ _ q => q⟩ N91 (Or.inr ⟨hc148_93, rfl⟩)
    intro Tj92 lj92 hj92 v1 Xj92 ej92 Ej92 Nj92 ivj92
    have O92 := own_ext O91 Ej92
    have base_92 := Fm91.ext Ej92
    show own_End p e below _ (Tj92.setTop (mkF m 162 #[.val (.long q1), .second, .val (.long q2), .second, .val (.long q3), .second, .val (.long q4), .second, .val (.int p5), .val (.int ga), .val (.int gt), .val (.int gm), .val (.int gs), .val (.int ra), .val (.int rt), .val (.int rm), .val (.int rs), .val (.int f1), .val (.int f2), .val (.int f3), .val (.int f4), .val (.int (0 : Int32)), .val (.ref b90), .val v1, .unset, .unset, .unset, .unset, .unset] []))
    refine own_by (fun _ k => XS.iload Xj92.here hx rfl (hb hby at_162) rfl k) ?_
    show own_End p e below _ (Tj92.setTop (mkF m 164 #[.val (.long q1), .second, .val (.long q2), .second, .val (.long q3), .second, .val (.long q4), .second, .val (.int p5), .val (.int ga), .val (.int gt), .val (.int gm), .val (.int gs), .val (.int ra), .val (.int rt), .val (.int rm), .val (.int rs), .val (.int f1), .val (.int f2), .val (.int f3), .val (.int f4), .val (.int (0 : Int32)), .val (.ref b90), .val v1, .unset, .unset, .unset, .unset, .unset] [(.int f2)]))
    refine own_join (fun END => ∀ (Tj95 : State) (lj95 : List Loc) (hj95 : Heap) (v2 : Value), Stand p l e room_1 s m #[(.long q1), (.long q2), (.long q3), (.long q4), (.int p5)] below meth c Tj95 lj95 3 6 → Tj95.heap = hj95 → Ext hj92 hj95 → Fr n0 lj95 → own_IV Z hj95 f2 gt v2 → END (Tj95.setTop (mkF m 178 #[.val (.long q1), .second, .val (.long q2), .second, .val (.long q3), .second, .val (.long q4), .second, .val (.int p5), .val (.int ga), .val (.int gt), .val (.int gm), .val (.int gs), .val (.int ra), .val (.int rt), .val (.int rm), .val (.int rs), .val (.int f1), .val (.int f2), .val (.int f3), .val (.int f4), .val (.int (0 : Int32)), .val (.ref b90), .val v1, .val v2, .unset, .unset, .unset, .unset] []))) (fun J95 => ?_) ?_
    · -- the two ways
      show own_End p e below _ (Tj92.setTop (mkF m 164 #[.val (.long q1), .second, .val (.long q2), .second, .val (.long q3), .second, .val (.long q4), .second, .val (.int p5), .val (.int ga), .val (.int gt), .val (.int gm), .val (.int gs), .val (.int ra), .val (.int rt), .val (.int rm), .val (.int rs), .val (.int f1), .val (.int f2), .val (.int f3), .val (.int f4), .val (.int (0 : Int32)), .val (.ref b90), .val v1, .unset, .unset, .unset, .unset, .unset] [(.int f2)]))
      rcases Decidable.em (f2 = (0 : Int32)) with hc164_96 | hc164_96
      · -- 164 True
        refine own_by (fun _ k => XS.ifYes Xj92.here hx rfl (pc0 := 164) (pc' := 171) rfl (hb hby at_164) rfl ((if0 _ _).trans (teq hc164_96).1) (by decide) (by decide) k) ?_
        show own_End p e below _ (Tj92.setTop (mkF m 171 #[.val (.long q1), .second, .val (.long q2), .second, .val (.long q3), .second, .val (.long q4), .second, .val (.int p5), .val (.int ga), .val (.int gt), .val (.int gm), .val (.int gs), .val (.int ra), .val (.int rt), .val (.int rm), .val (.int rs), .val (.int f1), .val (.int f2), .val (.int f3), .val (.int f4), .val (.int (0 : Int32)), .val (.ref b90), .val v1, .unset, .unset, .unset, .unset, .unset] []))
        refine own_by (fun _ k => XS.iload Xj92.here hx rfl (hb hby at_171) rfl k) ?_
        show own_End p e below _ (Tj92.setTop (mkF m 173 #[.val (.long q1), .second, .val (.long q2), .second, .val (.long q3), .second, .val (.long q4), .second, .val (.int p5), .val (.int ga), .val (.int gt), .val (.int gm), .val (.int gs), .val (.int ra), .val (.int rt), .val (.int rm), .val (.int rs), .val (.int f1), .val (.int f2), .val (.int f3), .val (.int f4), .val (.int (0 : Int32)), .val (.ref b90), .val v1, .unset, .unset, .unset, .unset, .unset] [(.int gt)]))
        obtain ⟨_, _, ⟨T97, L97, k97, n97⟩, -, X97, ⟨Lc97, hQ97, l97, y97, z97⟩, st97⟩ := Jvm.LawKit.callS Xj92 hx (y := (⟨"java/lang/Integer", "valueOf", "(I)Ljava/lang/Integer;"⟩ : MethodName)) hown (mvT hZ (hw _ (List.mem_of_getElem? (i := 22) rfl))) (mvT hZ (hw _ (List.mem_of_getElem? (i := 23) rfl))) (mvT hZ (hw _ (List.mem_of_getElem? (i := 24) rfl))) (mvT hZ (hw _ (List.mem_of_getElem? (i := 25) rfl))) (by decide) (own_back (W := 0) (own_vof l Z a0 hw [] gt hj92 n0 Z0 O92 hC) hZ (hw _ (List.mem_of_getElem? (i := 25) rfl)) (hw _ (List.mem_of_getElem? (i := 24) rfl)) (by decide) (by decide)) (g := (mkF m 173 #[.val (.long q1), .second, .val (.long q2), .second, .val (.long q3), .second, .val (.long q4), .second, .val (.int p5), .val (.int ga), .val (.int gt), .val (.int gm), .val (.int gs), .val (.int ra), .val (.int rt), .val (.int rm), .val (.int rs), .val (.int f1), .val (.int f2), .val (.int f3), .val (.int f4), .val (.int (0 : Int32)), .val (.ref b90), .val v1, .unset, .unset, .unset, .unset, .unset] [(.int gt)])) rfl (by rw [hml]; rfl) (argsL := [(.int gt)]) (rest := []) (lenOf own_pd4 rfl) rfl (by show 2 * 0 + _ ≤ _; exact Nat.le_of_eq rfl) (hb hby at_173) (fun _ _ => ⟨rfl, ej92, (by decide : 2 + 1 ≤ _), (by decide : 5 + 1 ≤ _)⟩)
        dsimp only [Pt.U, Pt.locs, Pt.cells, Pt.slots] at X97 l97 y97 z97 st97 hQ97
        subst l97 y97 z97
        obtain ⟨d2, rfl, N97q, Ob97, Ee97, Ff97⟩ := hQ97
        have N97 := Fr.app Nj92 N97q
        refine own_by st97 ?_
        have O97 := own_ext O92 Ob97
        have base_97 := base_92.ext Ob97
        have iv1_97 := ivj92.ext Ob97
        show own_End p e below _ (T97.setTop (mkF m 176 #[.val (.long q1), .second, .val (.long q2), .second, .val (.long q3), .second, .val (.long q4), .second, .val (.int p5), .val (.int ga), .val (.int gt), .val (.int gm), .val (.int gs), .val (.int ra), .val (.int rt), .val (.int rm), .val (.int rs), .val (.int f1), .val (.int f2), .val (.int f3), .val (.int f4), .val (.int (0 : Int32)), .val (.ref b90), .val v1, .unset, .unset, .unset, .unset, .unset] [(.ref d2)]))
        refine own_by (fun _ k => XS.astore X97.here hx rfl (hb hby at_176) rfl rfl (l' := #[.val (.long q1), .second, .val (.long q2), .second, .val (.long q3), .second, .val (.long q4), .second, .val (.int p5), .val (.int ga), .val (.int gt), .val (.int gm), .val (.int gs), .val (.int ra), .val (.int rt), .val (.int rm), .val (.int rs), .val (.int f1), .val (.int f2), .val (.int f3), .val (.int f4), .val (.int (0 : Int32)), .val (.ref b90), .val v1, .val (.ref d2), .unset, .unset, .unset, .unset]) rfl k) ?_
        show own_End p e below _ (T97.setTop (mkF m 178 #[.val (.long q1), .second, .val (.long q2), .second, .val (.long q3), .second, .val (.long q4), .second, .val (.int p5), .val (.int ga), .val (.int gt), .val (.int gm), .val (.int gs), .val (.int ra), .val (.int rt), .val (.int rm), .val (.int rs), .val (.int f1), .val (.int f2), .val (.int f3), .val (.int f4), .val (.int (0 : Int32)), .val (.ref b90), .val v1, .val (.ref d2), .unset, .unset, .unset, .unset] []))
        exact J95 _ _ _ _ (X97.more (by decide) (by decide)) rfl Ob97 N97 (Or.inl ⟨hc164_96, _, rfl, Ee97, Ff97⟩)
      · -- 164 False
        refine own_by (fun _ k => XS.ifNo Xj92.here hx rfl (hb hby at_164) rfl ((if0 _ _).trans (feq hc164_96).1) k) ?_
        show own_End p e below _ (Tj92.setTop (mkF m 167 #[.val (.long q1), .second, .val (.long q2), .second, .val (.long q3), .second, .val (.long q4), .second, .val (.int p5), .val (.int ga), .val (.int gt), .val (.int gm), .val (.int gs), .val (.int ra), .val (.int rt), .val (.int rm), .val (.int rs), .val (.int f1), .val (.int f2), .val (.int f3), .val (.int f4), .val (.int (0 : Int32)), .val (.ref b90), .val v1, .unset, .unset, .unset, .unset, .unset] []))
        refine own_by (fun _ k => XS.aconstNull Xj92.here hx rfl (hb hby at_167) k) ?_
        show own_End p e below _ (Tj92.setTop (mkF m 168 #[.val (.long q1), .second, .val (.long q2), .second, .val (.long q3), .second, .val (.long q4), .second, .val (.int p5), .val (.int ga), .val (.int gt), .val (.int gm), .val (.int gs), .val (.int ra), .val (.int rt), .val (.int rm), .val (.int rs), .val (.int f1), .val (.int f2), .val (.int f3), .val (.int f4), .val (.int (0 : Int32)), .val (.ref b90), .val v1, .unset, .unset, .unset, .unset, .unset] [.null]))
        refine own_by (fun _ k => XS.goto Xj92.here hx rfl (pc0 := 168) (pc' := 176) rfl (hb hby at_168) (by decide) (by decide) k) ?_
        show own_End p e below _ (Tj92.setTop (mkF m 176 #[.val (.long q1), .second, .val (.long q2), .second, .val (.long q3), .second, .val (.long q4), .second, .val (.int p5), .val (.int ga), .val (.int gt), .val (.int gm), .val (.int gs), .val (.int ra), .val (.int rt), .val (.int rm), .val (.int rs), .val (.int f1), .val (.int f2), .val (.int f3), .val (.int f4), .val (.int (0 : Int32)), .val (.ref b90), .val v1, .unset, .unset, .unset, .unset, .unset] [.null]))
        refine own_by (fun _ k => XS.astore Xj92.here hx rfl (hb hby at_176) rfl rfl (l' := #[.val (.long q1), .second, .val (.long q2), .second, .val (.long q3), .second, .val (.long q4), .second, .val (.int p5), .val (.int ga), .val (.int gt), .val (.int gm), .val (.int gs), .val (.int ra), .val (.int rt), .val (.int rm), .val (.int rs), .val (.int f1), .val (.int f2), .val (.int f3), .val (.int f4), .val (.int (0 : Int32)), .val (.ref b90), .val v1, .val .null, .unset, .unset, .unset, .unset]) rfl k) ?_
        show own_End p e below _ (Tj92.setTop (mkF m 178 #[.val (.long q1), .second, .val (.long q2), .second, .val (.long q3), .second, .val (.long q4), .second, .val (.int p5), .val (.int ga), .val (.int gt), .val (.int gm), .val (.int gs), .val (.int ra), .val (.int rt), .val (.int rm), .val (.int rs), .val (.int f1), .val (.int f2), .val (.int f3), .val (.int f4), .val (.int (0 : Int32)), .val (.ref b90), .val v1, .val .null, .unset, .unset, .unset, .unset] []))
        exact J95 _ _ _ _ (Xj92.more (by decide) (by decide)) ej92 ⟨Nat.le_refl _, fun _ _ q => q⟩ Nj92 (Or.inr ⟨hc164_96, rfl⟩)
    intro Tj95 lj95 hj95 v2 Xj95 ej95 Ej95 Nj95 ivj95
    have O95 := own_ext O92 Ej95
    have base_95 := base_92.ext Ej95
    have iv1_95 := ivj92.ext Ej95
    show own_End p e below _ (Tj95.setTop (mkF m 178 #[.val (.long q1), .second, .val (.long q2), .second, .val (.long q3), .second, .val (.long q4), .second, .val (.int p5), .val (.int ga), .val (.int gt), .val (.int gm), .val (.int gs), .val (.int ra), .val (.int rt), .val (.int rm), .val (.int rs), .val (.int f1), .val (.int f2), .val (.int f3), .val (.int f4), .val (.int (0 : Int32)), .val (.ref b90), .val v1, .val v2, .unset, .unset, .unset, .unset] []))
    refine own_by (fun _ k => XS.iload Xj95.here hx rfl (hb hby at_178) rfl k) ?_
    show own_End p e below _ (Tj95.setTop (mkF m 180 #[.val (.long q1), .second, .val (.long q2), .second, .val (.long q3), .second, .val (.long q4), .second, .val (.int p5), .val (.int ga), .val (.int gt), .val (.int gm), .val (.int gs), .val (.int ra), .val (.int rt), .val (.int rm), .val (.int rs), .val (.int f1), .val (.int f2), .val (.int f3), .val (.int f4), .val (.int (0 : Int32)), .val (.ref b90), .val v1, .val v2, .unset, .unset, .unset, .unset] [(.int f3)]))
    refine own_join (fun END => ∀ (Tj98 : State) (lj98 : List Loc) (hj98 : Heap) (v3 : Value), Stand p l e room_1 s m #[(.long q1), (.long q2), (.long q3), (.long q4), (.int p5)] below meth c Tj98 lj98 4 7 → Tj98.heap = hj98 → Ext hj95 hj98 → Fr n0 lj98 → own_IV Z hj98 f3 gm v3 → END (Tj98.setTop (mkF m 194 #[.val (.long q1), .second, .val (.long q2), .second, .val (.long q3), .second, .val (.long q4), .second, .val (.int p5), .val (.int ga), .val (.int gt), .val (.int gm), .val (.int gs), .val (.int ra), .val (.int rt), .val (.int rm), .val (.int rs), .val (.int f1), .val (.int f2), .val (.int f3), .val (.int f4), .val (.int (0 : Int32)), .val (.ref b90), .val v1, .val v2, .val v3, .unset, .unset, .unset] []))) (fun J98 => ?_) ?_
    · -- the two ways
      show own_End p e below _ (Tj95.setTop (mkF m 180 #[.val (.long q1), .second, .val (.long q2), .second, .val (.long q3), .second, .val (.long q4), .second, .val (.int p5), .val (.int ga), .val (.int gt), .val (.int gm), .val (.int gs), .val (.int ra), .val (.int rt), .val (.int rm), .val (.int rs), .val (.int f1), .val (.int f2), .val (.int f3), .val (.int f4), .val (.int (0 : Int32)), .val (.ref b90), .val v1, .val v2, .unset, .unset, .unset, .unset] [(.int f3)]))
      rcases Decidable.em (f3 = (0 : Int32)) with hc180_99 | hc180_99
      · -- 180 True
        refine own_by (fun _ k => XS.ifYes Xj95.here hx rfl (pc0 := 180) (pc' := 187) rfl (hb hby at_180) rfl ((if0 _ _).trans (teq hc180_99).1) (by decide) (by decide) k) ?_
        show own_End p e below _ (Tj95.setTop (mkF m 187 #[.val (.long q1), .second, .val (.long q2), .second, .val (.long q3), .second, .val (.long q4), .second, .val (.int p5), .val (.int ga), .val (.int gt), .val (.int gm), .val (.int gs), .val (.int ra), .val (.int rt), .val (.int rm), .val (.int rs), .val (.int f1), .val (.int f2), .val (.int f3), .val (.int f4), .val (.int (0 : Int32)), .val (.ref b90), .val v1, .val v2, .unset, .unset, .unset, .unset] []))
        refine own_by (fun _ k => XS.iload Xj95.here hx rfl (hb hby at_187) rfl k) ?_
        show own_End p e below _ (Tj95.setTop (mkF m 189 #[.val (.long q1), .second, .val (.long q2), .second, .val (.long q3), .second, .val (.long q4), .second, .val (.int p5), .val (.int ga), .val (.int gt), .val (.int gm), .val (.int gs), .val (.int ra), .val (.int rt), .val (.int rm), .val (.int rs), .val (.int f1), .val (.int f2), .val (.int f3), .val (.int f4), .val (.int (0 : Int32)), .val (.ref b90), .val v1, .val v2, .unset, .unset, .unset, .unset] [(.int gm)]))
        obtain ⟨_, _, ⟨T100, L100, k100, n100⟩, -, X100, ⟨Lc100, hQ100, l100, y100, z100⟩, st100⟩ := Jvm.LawKit.callS Xj95 hx (y := (⟨"java/lang/Integer", "valueOf", "(I)Ljava/lang/Integer;"⟩ : MethodName)) hown (mvT hZ (hw _ (List.mem_of_getElem? (i := 22) rfl))) (mvT hZ (hw _ (List.mem_of_getElem? (i := 23) rfl))) (mvT hZ (hw _ (List.mem_of_getElem? (i := 24) rfl))) (mvT hZ (hw _ (List.mem_of_getElem? (i := 25) rfl))) (by decide) (own_back (W := 0) (own_vof l Z a0 hw [] gm hj95 n0 Z0 O95 hC) hZ (hw _ (List.mem_of_getElem? (i := 25) rfl)) (hw _ (List.mem_of_getElem? (i := 24) rfl)) (by decide) (by decide)) (g := (mkF m 189 #[.val (.long q1), .second, .val (.long q2), .second, .val (.long q3), .second, .val (.long q4), .second, .val (.int p5), .val (.int ga), .val (.int gt), .val (.int gm), .val (.int gs), .val (.int ra), .val (.int rt), .val (.int rm), .val (.int rs), .val (.int f1), .val (.int f2), .val (.int f3), .val (.int f4), .val (.int (0 : Int32)), .val (.ref b90), .val v1, .val v2, .unset, .unset, .unset, .unset] [(.int gm)])) rfl (by rw [hml]; rfl) (argsL := [(.int gm)]) (rest := []) (lenOf own_pd4 rfl) rfl (by show 2 * 0 + _ ≤ _; exact Nat.le_of_eq rfl) (hb hby at_189) (fun _ _ => ⟨rfl, ej95, (by decide : 3 + 1 ≤ _), (by decide : 6 + 1 ≤ _)⟩)
        dsimp only [Pt.U, Pt.locs, Pt.cells, Pt.slots] at X100 l100 y100 z100 st100 hQ100
        subst l100 y100 z100
        obtain ⟨d3, rfl, N100q, Ob100, Ee100, Ff100⟩ := hQ100
        have N100 := Fr.app Nj95 N100q
        refine own_by st100 ?_
        have O100 := own_ext O95 Ob100
        have base_100 := base_95.ext Ob100
        have iv1_100 := iv1_95.ext Ob100
        have iv2_100 := ivj95.ext Ob100
        show own_End p e below _ (T100.setTop (mkF m 192 #[.val (.long q1), .second, .val (.long q2), .second, .val (.long q3), .second, .val (.long q4), .second, .val (.int p5), .val (.int ga), .val (.int gt), .val (.int gm), .val (.int gs), .val (.int ra), .val (.int rt), .val (.int rm), .val (.int rs), .val (.int f1), .val (.int f2), .val (.int f3), .val (.int f4), .val (.int (0 : Int32)), .val (.ref b90), .val v1, .val v2, .unset, .unset, .unset, .unset] [(.ref d3)]))
        refine own_by (fun _ k => XS.astore X100.here hx rfl (hb hby at_192) rfl rfl (l' := #[.val (.long q1), .second, .val (.long q2), .second, .val (.long q3), .second, .val (.long q4), .second, .val (.int p5), .val (.int ga), .val (.int gt), .val (.int gm), .val (.int gs), .val (.int ra), .val (.int rt), .val (.int rm), .val (.int rs), .val (.int f1), .val (.int f2), .val (.int f3), .val (.int f4), .val (.int (0 : Int32)), .val (.ref b90), .val v1, .val v2, .val (.ref d3), .unset, .unset, .unset]) rfl k) ?_
        show own_End p e below _ (T100.setTop (mkF m 194 #[.val (.long q1), .second, .val (.long q2), .second, .val (.long q3), .second, .val (.long q4), .second, .val (.int p5), .val (.int ga), .val (.int gt), .val (.int gm), .val (.int gs), .val (.int ra), .val (.int rt), .val (.int rm), .val (.int rs), .val (.int f1), .val (.int f2), .val (.int f3), .val (.int f4), .val (.int (0 : Int32)), .val (.ref b90), .val v1, .val v2, .val (.ref d3), .unset, .unset, .unset] []))
        exact J98 _ _ _ _ (X100.more (by decide) (by decide)) rfl Ob100 N100 (Or.inl ⟨hc180_99, _, rfl, Ee100, Ff100⟩)
      · -- 180 False
        refine own_by (fun _ k => XS.ifNo Xj95.here hx rfl (hb hby at_180) rfl ((if0 _ _).trans (feq hc180_99).1) k) ?_
        show own_End p e below _ (Tj95.setTop (mkF m 183 #[.val (.long q1), .second, .val (.long q2), .second, .val (.long q3), .second, .val (.long q4), .second, .val (.int p5), .val (.int ga), .val (.int gt), .val (.int gm), .val (.int gs), .val (.int ra), .val (.int rt), .val (.int rm), .val (.int rs), .val (.int f1), .val (.int f2), .val (.int f3), .val (.int f4), .val (.int (0 : Int32)), .val (.ref b90), .val v1, .val v2, .unset, .unset, .unset, .unset] []))
        refine own_by (fun _ k => XS.aconstNull Xj95.here hx rfl (hb hby at_183) k) ?_
        show own_End p e below _ (Tj95.setTop (mkF m 184 #[.val (.long q1), .second, .val (.long q2), .second, .val (.long q3), .second, .val (.long q4), .second, .val (.int p5), .val (.int ga), .val (.int gt), .val (.int gm), .val (.int gs), .val (.int ra), .val (.int rt), .val (.int rm), .val (.int rs), .val (.int f1), .val (.int f2), .val (.int f3), .val (.int f4), .val (.int (0 : Int32)), .val (.ref b90), .val v1, .val v2, .unset, .unset, .unset, .unset] [.null]))
        refine own_by (fun _ k => XS.goto Xj95.here hx rfl (pc0 := 184) (pc' := 192) rfl (hb hby at_184) (by decide) (by decide) k) ?_
        show own_End p e below _ (Tj95.setTop (mkF m 192 #[.val (.long q1), .second, .val (.long q2), .second, .val (.long q3), .second, .val (.long q4), .second, .val (.int p5), .val (.int ga), .val (.int gt), .val (.int gm), .val (.int gs), .val (.int ra), .val (.int rt), .val (.int rm), .val (.int rs), .val (.int f1), .val (.int f2), .val (.int f3), .val (.int f4), .val (.int (0 : Int32)), .val (.ref b90), .val v1, .val v2, .unset, .unset, .unset, .unset] [.null]))
        refine own_by (fun _ k => XS.astore Xj95.here hx rfl (hb hby at_192) rfl rfl (l' := #[.val (.long q1), .second, .val (.long q2), .second, .val (.long q3), .second, .val (.long q4), .second, .val (.int p5), .val (.int ga), .val (.int gt), .val (.int gm), .val (.int gs), .val (.int ra), .val (.int rt), .val (.int rm), .val (.int rs), .val (.int f1), .val (.int f2), .val (.int f3), .val (.int f4), .val (.int (0 : Int32)), .val (.ref b90), .val v1, .val v2, .val .null, .unset, .unset, .unset]) rfl k) ?_
        show own_End p e below _ (Tj95.setTop (mkF m 194 #[.val (.long q1), .second, .val (.long q2), .second, .val (.long q3), .second, .val (.long q4), .second, .val (.int p5), .val (.int ga), .val (.int gt), .val (.int gm), .val (.int gs), .val (.int ra), .val (.int rt), .val (.int rm), .val (.int rs), .val (.int f1), .val (.int f2), .val (.int f3), .val (.int f4), .val (.int (0 : Int32)), .val (.ref b90), .val v1, .val v2, .val .null, .unset, .unset, .unset] []))
        exact J98 _ _ _ _ (Xj95.more (by decide) (by decide)) ej95 ⟨Nat.le_refl _, fun _ _ q => q⟩ Nj95 (Or.inr ⟨hc180_99, rfl⟩)
    intro Tj98 lj98 hj98 v3 Xj98 ej98 Ej98 Nj98 ivj98
    have O98 := own_ext O95 Ej98
    have base_98 := base_95.ext Ej98
    have iv1_98 := iv1_95.ext Ej98
    have iv2_98 := ivj95.ext Ej98
    show own_End p e below _ (Tj98.setTop (mkF m 194 #[.val (.long q1), .second, .val (.long q2), .second, .val (.long q3), .second, .val (.long q4), .second, .val (.int p5), .val (.int ga), .val (.int gt), .val (.int gm), .val (.int gs), .val (.int ra), .val (.int rt), .val (.int rm), .val (.int rs), .val (.int f1), .val (.int f2), .val (.int f3), .val (.int f4), .val (.int (0 : Int32)), .val (.ref b90), .val v1, .val v2, .val v3, .unset, .unset, .unset] []))
    refine own_by (fun _ k => XS.iload Xj98.here hx rfl (hb hby at_194) rfl k) ?_
    show own_End p e below _ (Tj98.setTop (mkF m 196 #[.val (.long q1), .second, .val (.long q2), .second, .val (.long q3), .second, .val (.long q4), .second, .val (.int p5), .val (.int ga), .val (.int gt), .val (.int gm), .val (.int gs), .val (.int ra), .val (.int rt), .val (.int rm), .val (.int rs), .val (.int f1), .val (.int f2), .val (.int f3), .val (.int f4), .val (.int (0 : Int32)), .val (.ref b90), .val v1, .val v2, .val v3, .unset, .unset, .unset] [(.int f4)]))
    refine own_join (fun END => ∀ (Tj101 : State) (lj101 : List Loc) (hj101 : Heap) (v4 : Value), Stand p l e room_1 s m #[(.long q1), (.long q2), (.long q3), (.long q4), (.int p5)] below meth c Tj101 lj101 5 8 → Tj101.heap = hj101 → Ext hj98 hj101 → Fr n0 lj101 → own_IV Z hj101 f4 gs v4 → END (Tj101.setTop (mkF m 210 #[.val (.long q1), .second, .val (.long q2), .second, .val (.long q3), .second, .val (.long q4), .second, .val (.int p5), .val (.int ga), .val (.int gt), .val (.int gm), .val (.int gs), .val (.int ra), .val (.int rt), .val (.int rm), .val (.int rs), .val (.int f1), .val (.int f2), .val (.int f3), .val (.int f4), .val (.int (0 : Int32)), .val (.ref b90), .val v1, .val v2, .val v3, .val v4, .unset, .unset] []))) (fun J101 => ?_) ?_
    · -- the two ways
      show own_End p e below _ (Tj98.setTop (mkF m 196 #[.val (.long q1), .second, .val (.long q2), .second, .val (.long q3), .second, .val (.long q4), .second, .val (.int p5), .val (.int ga), .val (.int gt), .val (.int gm), .val (.int gs), .val (.int ra), .val (.int rt), .val (.int rm), .val (.int rs), .val (.int f1), .val (.int f2), .val (.int f3), .val (.int f4), .val (.int (0 : Int32)), .val (.ref b90), .val v1, .val v2, .val v3, .unset, .unset, .unset] [(.int f4)]))
      rcases Decidable.em (f4 = (0 : Int32)) with hc196_102 | hc196_102
      · -- 196 True
        refine own_by (fun _ k => XS.ifYes Xj98.here hx rfl (pc0 := 196) (pc' := 203) rfl (hb hby at_196) rfl ((if0 _ _).trans (teq hc196_102).1) (by decide) (by decide) k) ?_
        show own_End p e below _ (Tj98.setTop (mkF m 203 #[.val (.long q1), .second, .val (.long q2), .second, .val (.long q3), .second, .val (.long q4), .second, .val (.int p5), .val (.int ga), .val (.int gt), .val (.int gm), .val (.int gs), .val (.int ra), .val (.int rt), .val (.int rm), .val (.int rs), .val (.int f1), .val (.int f2), .val (.int f3), .val (.int f4), .val (.int (0 : Int32)), .val (.ref b90), .val v1, .val v2, .val v3, .unset, .unset, .unset] []))
        refine own_by (fun _ k => XS.iload Xj98.here hx rfl (hb hby at_203) rfl k) ?_
        show own_End p e below _ (Tj98.setTop (mkF m 205 #[.val (.long q1), .second, .val (.long q2), .second, .val (.long q3), .second, .val (.long q4), .second, .val (.int p5), .val (.int ga), .val (.int gt), .val (.int gm), .val (.int gs), .val (.int ra), .val (.int rt), .val (.int rm), .val (.int rs), .val (.int f1), .val (.int f2), .val (.int f3), .val (.int f4), .val (.int (0 : Int32)), .val (.ref b90), .val v1, .val v2, .val v3, .unset, .unset, .unset] [(.int gs)]))
        obtain ⟨_, _, ⟨T103, L103, k103, n103⟩, -, X103, ⟨Lc103, hQ103, l103, y103, z103⟩, st103⟩ := Jvm.LawKit.callS Xj98 hx (y := (⟨"java/lang/Integer", "valueOf", "(I)Ljava/lang/Integer;"⟩ : MethodName)) hown (mvT hZ (hw _ (List.mem_of_getElem? (i := 22) rfl))) (mvT hZ (hw _ (List.mem_of_getElem? (i := 23) rfl))) (mvT hZ (hw _ (List.mem_of_getElem? (i := 24) rfl))) (mvT hZ (hw _ (List.mem_of_getElem? (i := 25) rfl))) (by decide) (own_back (W := 0) (own_vof l Z a0 hw [] gs hj98 n0 Z0 O98 hC) hZ (hw _ (List.mem_of_getElem? (i := 25) rfl)) (hw _ (List.mem_of_getElem? (i := 24) rfl)) (by decide) (by decide)) (g := (mkF m 205 #[.val (.long q1), .second, .val (.long q2), .second, .val (.long q3), .second, .val (.long q4), .second, .val (.int p5), .val (.int ga), .val (.int gt), .val (.int gm), .val (.int gs), .val (.int ra), .val (.int rt), .val (.int rm), .val (.int rs), .val (.int f1), .val (.int f2), .val (.int f3), .val (.int f4), .val (.int (0 : Int32)), .val (.ref b90), .val v1, .val v2, .val v3, .unset, .unset, .unset] [(.int gs)])) rfl (by rw [hml]; rfl) (argsL := [(.int gs)]) (rest := []) (lenOf own_pd4 rfl) rfl (by show 2 * 0 + _ ≤ _; exact Nat.le_of_eq rfl) (hb hby at_205) (fun _ _ => ⟨rfl, ej98, (by decide : 4 + 1 ≤ _), (by decide : 7 + 1 ≤ _)⟩)
        dsimp only [Pt.U, Pt.locs, Pt.cells, Pt.slots] at X103 l103 y103 z103 st103 hQ103
        subst l103 y103 z103
        obtain ⟨d4, rfl, N103q, Ob103, Ee103, Ff103⟩ := hQ103
        have N103 := Fr.app Nj98 N103q
        refine own_by st103 ?_
        have O103 := own_ext O98 Ob103
        have base_103 := base_98.ext Ob103
        have iv1_103 := iv1_98.ext Ob103
        have iv2_103 := iv2_98.ext Ob103
        have iv3_103 := ivj98.ext Ob103
        show own_End p e below _ (T103.setTop (mkF m 208 #[.val (.long q1), .second, .val (.long q2), .second, .val (.long q3), .second, .val (.long q4), .second, .val (.int p5), .val (.int ga), .val (.int gt), .val (.int gm), .val (.int gs), .val (.int ra), .val (.int rt), .val (.int rm), .val (.int rs), .val (.int f1), .val (.int f2), .val (.int f3), .val (.int f4), .val (.int (0 : Int32)), .val (.ref b90), .val v1, .val v2, .val v3, .unset, .unset, .unset] [(.ref d4)]))
        refine own_by (fun _ k => XS.astore X103.here hx rfl (hb hby at_208) rfl rfl (l' := #[.val (.long q1), .second, .val (.long q2), .second, .val (.long q3), .second, .val (.long q4), .second, .val (.int p5), .val (.int ga), .val (.int gt), .val (.int gm), .val (.int gs), .val (.int ra), .val (.int rt), .val (.int rm), .val (.int rs), .val (.int f1), .val (.int f2), .val (.int f3), .val (.int f4), .val (.int (0 : Int32)), .val (.ref b90), .val v1, .val v2, .val v3, .val (.ref d4), .unset, .unset]) rfl k) ?_
        show own_End p e below _ (T103.setTop (mkF m 210 #[.val (.long q1), .second, .val (.long q2), .second, .val (.long q3), .second, .val (.long q4), .second, .val (.int p5), .val (.int ga), .val (.int gt), .val (.int gm), .val (.int gs), .val (.int ra), .val (.int rt), .val (.int rm), .val (.int rs), .val (.int f1), .val (.int f2), .val (.int f3), .val (.int f4), .val (.int (0 : Int32)), .val (.ref b90), .val v1, .val v2, .val v3, .val (.ref d4), .unset, .unset] []))
        exact J101 _ _ _ _ (X103.more (by decide) (by decide)) rfl Ob103 N103 (Or.inl ⟨hc196_102, _, rfl, Ee103, Ff103⟩)
      · -- 196 False
        refine own_by (fun _ k => XS.ifNo Xj98.here hx rfl (hb hby at_196) rfl ((if0 _ _).trans (feq hc196_102).1) k) ?_
        show own_End p e below _ (Tj98.setTop (mkF m 199 #[.val (.long q1), .second, .val (.long q2), .second, .val (.long q3), .second, .val (.long q4), .second, .val (.int p5), .val (.int ga), .val (.int gt), .val (.int gm), .val (.int gs), .val (.int ra), .val (.int rt), .val (.int rm), .val (.int rs), .val (.int f1), .val (.int f2), .val (.int f3), .val (.int f4), .val (.int (0 : Int32)), .val (.ref b90), .val v1, .val v2, .val v3, .unset, .unset, .unset] []))
        refine own_by (fun _ k => XS.aconstNull Xj98.here hx rfl (hb hby at_199) k) ?_
        show own_End p e below _ (Tj98.setTop (mkF m 200 #[.val (.long q1), .second, .val (.long q2), .second, .val (.long q3), .second, .val (.long q4), .second, .val (.int p5), .val (.int ga), .val (.int gt), .val (.int gm), .val (.int gs), .val (.int ra), .val (.int rt), .val (.int rm), .val (.int rs), .val (.int f1), .val (.int f2), .val (.int f3), .val (.int f4), .val (.int (0 : Int32)), .val (.ref b90), .val v1, .val v2, .val v3, .unset, .unset, .unset] [.null]))
        refine own_by (fun _ k => XS.goto Xj98.here hx rfl (pc0 := 200) (pc' := 208) rfl (hb hby at_200) (by decide) (by decide) k) ?_
        show own_End p e below _ (Tj98.setTop (mkF m 208 #[.val (.long q1), .second, .val (.long q2), .second, .val (.long q3), .second, .val (.long q4), .second, .val (.int p5), .val (.int ga), .val (.int gt), .val (.int gm), .val (.int gs), .val (.int ra), .val (.int rt), .val (.int rm), .val (.int rs), .val (.int f1), .val (.int f2), .val (.int f3), .val (.int f4), .val (.int (0 : Int32)), .val (.ref b90), .val v1, .val v2, .val v3, .unset, .unset, .unset] [.null]))
        refine own_by (fun _ k => XS.astore Xj98.here hx rfl (hb hby at_208) rfl rfl (l' := #[.val (.long q1), .second, .val (.long q2), .second, .val (.long q3), .second, .val (.long q4), .second, .val (.int p5), .val (.int ga), .val (.int gt), .val (.int gm), .val (.int gs), .val (.int ra), .val (.int rt), .val (.int rm), .val (.int rs), .val (.int f1), .val (.int f2), .val (.int f3), .val (.int f4), .val (.int (0 : Int32)), .val (.ref b90), .val v1, .val v2, .val v3, .val .null, .unset, .unset]) rfl k) ?_
        show own_End p e below _ (Tj98.setTop (mkF m 210 #[.val (.long q1), .second, .val (.long q2), .second, .val (.long q3), .second, .val (.long q4), .second, .val (.int p5), .val (.int ga), .val (.int gt), .val (.int gm), .val (.int gs), .val (.int ra), .val (.int rt), .val (.int rm), .val (.int rs), .val (.int f1), .val (.int f2), .val (.int f3), .val (.int f4), .val (.int (0 : Int32)), .val (.ref b90), .val v1, .val v2, .val v3, .val .null, .unset, .unset] []))
        exact J101 _ _ _ _ (Xj98.more (by decide) (by decide)) ej98 ⟨Nat.le_refl _, fun _ _ q => q⟩ Nj98 (Or.inr ⟨hc196_102, rfl⟩)
    intro Tj101 lj101 hj101 v4 Xj101 ej101 Ej101 Nj101 ivj101
    have O101 := own_ext O98 Ej101
    have base_101 := base_98.ext Ej101
    have iv1_101 := iv1_98.ext Ej101
    have iv2_101 := iv2_98.ext Ej101
    have iv3_101 := ivj98.ext Ej101
    show own_End p e below _ (Tj101.setTop (mkF m 210 #[.val (.long q1), .second, .val (.long q2), .second, .val (.long q3), .second, .val (.long q4), .second, .val (.int p5), .val (.int ga), .val (.int gt), .val (.int gm), .val (.int gs), .val (.int ra), .val (.int rt), .val (.int rm), .val (.int rs), .val (.int f1), .val (.int f2), .val (.int f3), .val (.int f4), .val (.int (0 : Int32)), .val (.ref b90), .val v1, .val v2, .val v3, .val v4, .unset, .unset] []))
    obtain ⟨T104, h104, X104, e104, E104, A104, D104, -, st104⟩ := newO Xj101 hx hZ hown (hw _ (List.mem_of_getElem? (i := 29) rfl)) (hw _ (List.mem_of_getElem? (i := 30) rfl)) (hw _ (List.mem_of_getElem? (i := 31) rfl)) ej101 (g := (mkF m 210 #[.val (.long q1), .second, .val (.long q2), .second, .val (.long q3), .second, .val (.long q4), .second, .val (.int p5), .val (.int ga), .val (.int gt), .val (.int gm), .val (.int gs), .val (.int ra), .val (.int rt), .val (.int rm), .val (.int rs), .val (.int f1), .val (.int f2), .val (.int f3), .val (.int f4), .val (.int (0 : Int32)), .val (.ref b90), .val v1, .val v2, .val v3, .val v4, .unset, .unset] [])) rfl (hb hby at_210) (by decide) (by decide)
    obtain ⟨b104, g104⟩ : ∃ z, z = hj101.size := ⟨_, rfl⟩
    rw [← g104] at A104 D104 st104
    have g_b104 : Z.heap.size ≤ b104 := Nat.le_trans O101.1 (Nat.le_of_eq g104.symm)
    have F104_admitPerTick : Fld Z h104 b104 "com/example/hongdae/hongdae/sale/WaitingRoom$Change" "admitPerTick" "Ljava/lang/Integer;" .null := D104 (Or.inr (hw _ (List.mem_of_getElem? (i := 37) rfl))) (ty := (.object "java/lang/Integer")) (by decide)
    have F104_tickSeconds : Fld Z h104 b104 "com/example/hongdae/hongdae/sale/WaitingRoom$Change" "tickSeconds" "Ljava/lang/Integer;" .null := D104 (Or.inr (hw _ (List.mem_of_getElem? (i := 39) rfl))) (ty := (.object "java/lang/Integer")) (by decide)
    have F104_maxActive : Fld Z h104 b104 "com/example/hongdae/hongdae/sale/WaitingRoom$Change" "maxActive" "Ljava/lang/Integer;" .null := D104 (Or.inr (hw _ (List.mem_of_getElem? (i := 41) rfl))) (ty := (.object "java/lang/Integer")) (by decide)
    have F104_activeSeconds : Fld Z h104 b104 "com/example/hongdae/hongdae/sale/WaitingRoom$Change" "activeSeconds" "Ljava/lang/Integer;" .null := D104 (Or.inr (hw _ (List.mem_of_getElem? (i := 43) rfl))) (ty := (.object "java/lang/Integer")) (by decide)
    refine own_by st104 ?_
    show own_End p e below _ (T104.setTop (mkF m 213 #[.val (.long q1), .second, .val (.long q2), .second, .val (.long q3), .second, .val (.long q4), .second, .val (.int p5), .val (.int ga), .val (.int gt), .val (.int gm), .val (.int gs), .val (.int ra), .val (.int rt), .val (.int rm), .val (.int rs), .val (.int f1), .val (.int f2), .val (.int f3), .val (.int f4), .val (.int (0 : Int32)), .val (.ref b90), .val v1, .val v2, .val v3, .val v4, .unset, .unset] [(.ref b104)]))
    refine own_by (fun _ k => XS.dup X104.here hx rfl (hb hby at_213) rfl rfl k) ?_
    show own_End p e below _ (T104.setTop (mkF m 214 #[.val (.long q1), .second, .val (.long q2), .second, .val (.long q3), .second, .val (.long q4), .second, .val (.int p5), .val (.int ga), .val (.int gt), .val (.int gm), .val (.int gs), .val (.int ra), .val (.int rt), .val (.int rm), .val (.int rs), .val (.int f1), .val (.int f2), .val (.int f3), .val (.int f4), .val (.int (0 : Int32)), .val (.ref b90), .val v1, .val v2, .val v3, .val v4, .unset, .unset] [(.ref b104), (.ref b104)]))
    refine own_by (fun _ k => XS.aload X104.here hx rfl (hb hby at_214) rfl ivj92.rf.is k) ?_
    show own_End p e below _ (T104.setTop (mkF m 216 #[.val (.long q1), .second, .val (.long q2), .second, .val (.long q3), .second, .val (.long q4), .second, .val (.int p5), .val (.int ga), .val (.int gt), .val (.int gm), .val (.int gs), .val (.int ra), .val (.int rt), .val (.int rm), .val (.int rs), .val (.int f1), .val (.int f2), .val (.int f3), .val (.int f4), .val (.int (0 : Int32)), .val (.ref b90), .val v1, .val v2, .val v3, .val v4, .unset, .unset] [v1, (.ref b104), (.ref b104)]))
    refine own_by (fun _ k => XS.aload X104.here hx rfl (hb hby at_216) rfl ivj95.rf.is k) ?_
    show own_End p e below _ (T104.setTop (mkF m 218 #[.val (.long q1), .second, .val (.long q2), .second, .val (.long q3), .second, .val (.long q4), .second, .val (.int p5), .val (.int ga), .val (.int gt), .val (.int gm), .val (.int gs), .val (.int ra), .val (.int rt), .val (.int rm), .val (.int rs), .val (.int f1), .val (.int f2), .val (.int f3), .val (.int f4), .val (.int (0 : Int32)), .val (.ref b90), .val v1, .val v2, .val v3, .val v4, .unset, .unset] [v2, v1, (.ref b104), (.ref b104)]))
    refine own_by (fun _ k => XS.aload X104.here hx rfl (hb hby at_218) rfl ivj98.rf.is k) ?_
    show own_End p e below _ (T104.setTop (mkF m 220 #[.val (.long q1), .second, .val (.long q2), .second, .val (.long q3), .second, .val (.long q4), .second, .val (.int p5), .val (.int ga), .val (.int gt), .val (.int gm), .val (.int gs), .val (.int ra), .val (.int rt), .val (.int rm), .val (.int rs), .val (.int f1), .val (.int f2), .val (.int f3), .val (.int f4), .val (.int (0 : Int32)), .val (.ref b90), .val v1, .val v2, .val v3, .val v4, .unset, .unset] [v3, v2, v1, (.ref b104), (.ref b104)]))
    refine own_by (fun _ k => XS.aload X104.here hx rfl (hb hby at_220) rfl ivj101.rf.is k) ?_
    show own_End p e below _ (T104.setTop (mkF m 222 #[.val (.long q1), .second, .val (.long q2), .second, .val (.long q3), .second, .val (.long q4), .second, .val (.int p5), .val (.int ga), .val (.int gt), .val (.int gm), .val (.int gs), .val (.int ra), .val (.int rt), .val (.int rm), .val (.int rs), .val (.int f1), .val (.int f2), .val (.int f3), .val (.int f4), .val (.int (0 : Int32)), .val (.ref b90), .val v1, .val v2, .val v3, .val v4, .unset, .unset] [v4, v3, v2, v1, (.ref b104), (.ref b104)]))
    obtain ⟨_, _, ⟨T105, L105, k105, n105⟩, -, X105, ⟨Lc105, hQ105, l105, y105, z105⟩, st105⟩ := X104.specialBack hx (y := (⟨"com/example/hongdae/hongdae/sale/WaitingRoom$Change", "<init>", "(Ljava/lang/Integer;Ljava/lang/Integer;Ljava/lang/Integer;Ljava/lang/Integer;)V"⟩ : MethodName)) rfl hown (mvT hZ (hw _ (List.mem_of_getElem? (i := 32) rfl))) (mvT hZ (hw _ (List.mem_of_getElem? (i := 33) rfl))) (mvT hZ (hw _ (List.mem_of_getElem? (i := 34) rfl))) (by decide) (own_back (W := 1) (own_chi l Z a0 hw [] b104 v1 v2 v3 v4 h104 n0 hj101 E104 (Nat.le_of_eq g104.symm) Z0 g_b104 A104 F104_admitPerTick F104_tickSeconds F104_maxActive F104_activeSeconds ivj92.rf ivj95.rf ivj98.rf ivj101.rf) hZ (hw _ (List.mem_of_getElem? (i := 34) rfl)) (hw _ (List.mem_of_getElem? (i := 31) rfl)) (by decide) (by decide)) (g := (mkF m 222 #[.val (.long q1), .second, .val (.long q2), .second, .val (.long q3), .second, .val (.long q4), .second, .val (.int p5), .val (.int ga), .val (.int gt), .val (.int gm), .val (.int gs), .val (.int ra), .val (.int rt), .val (.int rm), .val (.int rs), .val (.int f1), .val (.int f2), .val (.int f3), .val (.int f4), .val (.int (0 : Int32)), .val (.ref b90), .val v1, .val v2, .val v3, .val v4, .unset, .unset] [v4, v3, v2, v1, (.ref b104), (.ref b104)])) rfl (by rw [hml]; rfl) (Steps.refl _) (a := b104) (argsL := [v1, v2, v3, v4]) (rest := [(.ref b104)]) (lenOf own_pd7 rfl) rfl (by show 2 * 0 + _ ≤ _; exact Nat.le_of_eq rfl) (hb hby at_222) (fun _ _ => ⟨rfl, e104, (by decide : 6 + 0 ≤ _), (by decide : 12 + 0 ≤ _)⟩)
    dsimp only [Pt.U, Pt.locs, Pt.cells, Pt.slots] at X105 l105 y105 z105 st105 hQ105
    subst l105 y105 z105
    obtain ⟨rfl, N105q, Ob105, Kp105, Fm105⟩ := hQ105
    have N105 := Fr.app Nj101 N105q
    refine own_by (fun _ k => st105.trans k) ?_
    have O105 := own_ext O101 Ob105
    have base_105 := base_101.ext Ob105
    have iv1_105 := iv1_101.ext Ob105
    have iv2_105 := iv2_101.ext Ob105
    have iv3_105 := iv3_101.ext Ob105
    have iv4_105 := ivj101.ext Ob105
    show own_End p e below _ (T105.setTop (mkF m 225 #[.val (.long q1), .second, .val (.long q2), .second, .val (.long q3), .second, .val (.long q4), .second, .val (.int p5), .val (.int ga), .val (.int gt), .val (.int gm), .val (.int gs), .val (.int ra), .val (.int rt), .val (.int rm), .val (.int rs), .val (.int f1), .val (.int f2), .val (.int f3), .val (.int f4), .val (.int (0 : Int32)), .val (.ref b90), .val v1, .val v2, .val v3, .val v4, .unset, .unset] [(.ref b104)]))
    refine own_by (fun _ k => XS.astore X105.here hx rfl (hb hby at_225) rfl rfl (l' := #[.val (.long q1), .second, .val (.long q2), .second, .val (.long q3), .second, .val (.long q4), .second, .val (.int p5), .val (.int ga), .val (.int gt), .val (.int gm), .val (.int gs), .val (.int ra), .val (.int rt), .val (.int rm), .val (.int rs), .val (.int f1), .val (.int f2), .val (.int f3), .val (.int f4), .val (.int (0 : Int32)), .val (.ref b90), .val v1, .val v2, .val v3, .val v4, .val (.ref b104), .unset]) rfl k) ?_
    show own_End p e below _ (T105.setTop (mkF m 227 #[.val (.long q1), .second, .val (.long q2), .second, .val (.long q3), .second, .val (.long q4), .second, .val (.int p5), .val (.int ga), .val (.int gt), .val (.int gm), .val (.int gs), .val (.int ra), .val (.int rt), .val (.int rm), .val (.int rs), .val (.int f1), .val (.int f2), .val (.int f3), .val (.int f4), .val (.int (0 : Int32)), .val (.ref b90), .val v1, .val v2, .val v3, .val v4, .val (.ref b104), .unset] []))
    refine own_by (fun _ k => XS.aload X105.here hx rfl (hb hby at_227) rfl rfl k) ?_
    show own_End p e below _ (T105.setTop (mkF m 229 #[.val (.long q1), .second, .val (.long q2), .second, .val (.long q3), .second, .val (.long q4), .second, .val (.int p5), .val (.int ga), .val (.int gt), .val (.int gm), .val (.int gs), .val (.int ra), .val (.int rt), .val (.int rm), .val (.int rs), .val (.int f1), .val (.int f2), .val (.int f3), .val (.int f4), .val (.int (0 : Int32)), .val (.ref b90), .val v1, .val v2, .val v3, .val v4, .val (.ref b104), .unset] [(.ref b104)]))
    refine own_by (fun _ k => XS.aload X105.here hx rfl (hb hby at_229) rfl rfl k) ?_
    show own_End p e below _ (T105.setTop (mkF m 231 #[.val (.long q1), .second, .val (.long q2), .second, .val (.long q3), .second, .val (.long q4), .second, .val (.int p5), .val (.int ga), .val (.int gt), .val (.int gm), .val (.int gs), .val (.int ra), .val (.int rt), .val (.int rm), .val (.int rs), .val (.int f1), .val (.int f2), .val (.int f3), .val (.int f4), .val (.int (0 : Int32)), .val (.ref b90), .val v1, .val v2, .val v3, .val v4, .val (.ref b104), .unset] [(.ref b90), (.ref b104)]))
    obtain ⟨cq106, kq106, q106a, q106b, q106c⟩ := isOf hZ rfl Fm105.1
    obtain ⟨_, _, ⟨T106, L106, k106, n106⟩, -, X106, hS106, gr106, ⟨Lc106, hQ106, l106, y106, z106⟩, st106⟩ := X105.virtualBackS hx (y := (⟨"com/example/hongdae/hongdae/sale/WaitingRoom$Change", "applyTo", "(Lcom/example/hongdae/hongdae/sale/WaitingRoom;)Lcom/example/hongdae/hongdae/sale/WaitingRoom;"⟩ : MethodName)) (z := (⟨"com/example/hongdae/hongdae/sale/WaitingRoom$Change", "applyTo", "(Lcom/example/hongdae/hongdae/sale/WaitingRoom;)Lcom/example/hongdae/hongdae/sale/WaitingRoom;"⟩ : MethodName)) hown (mvT hZ (hw _ (List.mem_of_getElem? (i := 44) rfl))) (mvT hZ (hw _ (List.mem_of_getElem? (i := 45) rfl))) (notFace_of_selects (args := #[]) (mvT hZ (hw _ (List.mem_of_getElem? (i := 47) rfl)))) (mvT hZ (hw _ (List.mem_of_getElem? (i := 47) rfl))) (mvT hZ (hw _ (List.mem_of_getElem? (i := 46) rfl))) (by decide) (own_backS (W := 0) (own_appR l Z a0 hw [] b104 b90 v1 v2 v3 v4 f1 f2 f3 f4 ga gt gm gs ra rt rm rs T105.heap n0 Z0 O105 hC base_105 Fm105 iv1_105 iv2_105 iv3_105 iv4_105) hZ (hw _ (List.mem_of_getElem? (i := 48) rfl)) (hw _ (List.mem_of_getElem? (i := 31) rfl)) (by decide) (by decide)) q106a q106c (g := (mkF m 231 #[.val (.long q1), .second, .val (.long q2), .second, .val (.long q3), .second, .val (.long q4), .second, .val (.int p5), .val (.int ga), .val (.int gt), .val (.int gm), .val (.int gs), .val (.int ra), .val (.int rt), .val (.int rm), .val (.int rs), .val (.int f1), .val (.int f2), .val (.int f3), .val (.int f4), .val (.int (0 : Int32)), .val (.ref b90), .val v1, .val v2, .val v3, .val v4, .val (.ref b104), .unset] [(.ref b90), (.ref b104)])) rfl (by rw [hml]; rfl) (Steps.refl _) (argsL := [(.ref b90)]) (rest := []) (lenOf own_pd8 rfl) rfl (by show 2 * 0 + _ ≤ _; exact Nat.le_of_eq rfl) (hb hby at_231) (fun _ _ => ⟨rfl, rfl, (by decide : 6 + 13 ≤ _), (by decide : 12 + 184 ≤ _)⟩)
    dsimp only [Pt.U, Pt.locs, Pt.cells, Pt.slots] at X106 l106 y106 z106 st106 hQ106 hS106 gr106
    subst l106 y106 z106
    obtain ⟨ou, rfl, N106q, Fo106⟩ := hQ106
    have N106 := Fr.app N105 N106q
    have hZ106 : Z.Warmed39 (s.setVm T106.vm).vm := State.Warmed39.trans hZ hS106.1
    have hown106 : (s.setVm T106.vm).vm.findClass "com/example/hongdae/hongdae/sale/ChangeApplyToPinLaw" = some m.cls := (hS106.1.alike.findClass _ _).trans hown
    refine own_by (fun _ k => st106.trans k) ?_
    show own_End p e below _ (T106.setTop (mkF m 234 #[.val (.long q1), .second, .val (.long q2), .second, .val (.long q3), .second, .val (.long q4), .second, .val (.int p5), .val (.int ga), .val (.int gt), .val (.int gm), .val (.int gs), .val (.int ra), .val (.int rt), .val (.int rm), .val (.int rs), .val (.int f1), .val (.int f2), .val (.int f3), .val (.int f4), .val (.int (0 : Int32)), .val (.ref b90), .val v1, .val v2, .val v3, .val v4, .val (.ref b104), .unset] [(.ref ou)]))
    refine own_by (fun _ k => XS.astore X106.here hx rfl (hb hby at_234) rfl rfl (l' := #[.val (.long q1), .second, .val (.long q2), .second, .val (.long q3), .second, .val (.long q4), .second, .val (.int p5), .val (.int ga), .val (.int gt), .val (.int gm), .val (.int gs), .val (.int ra), .val (.int rt), .val (.int rm), .val (.int rs), .val (.int f1), .val (.int f2), .val (.int f3), .val (.int f4), .val (.int (0 : Int32)), .val (.ref b90), .val v1, .val v2, .val v3, .val v4, .val (.ref b104), .val (.ref ou)]) rfl k) ?_
    show own_End p e below _ (T106.setTop (mkF m 236 #[.val (.long q1), .second, .val (.long q2), .second, .val (.long q3), .second, .val (.long q4), .second, .val (.int p5), .val (.int ga), .val (.int gt), .val (.int gm), .val (.int gs), .val (.int ra), .val (.int rt), .val (.int rm), .val (.int rs), .val (.int f1), .val (.int f2), .val (.int f3), .val (.int f4), .val (.int (0 : Int32)), .val (.ref b90), .val v1, .val v2, .val v3, .val v4, .val (.ref b104), .val (.ref ou)] []))
    refine own_by (fun _ k => XS.aload X106.here hx rfl (hb hby at_236) rfl rfl k) ?_
    show own_End p e below _ (T106.setTop (mkF m 238 #[.val (.long q1), .second, .val (.long q2), .second, .val (.long q3), .second, .val (.long q4), .second, .val (.int p5), .val (.int ga), .val (.int gt), .val (.int gm), .val (.int gs), .val (.int ra), .val (.int rt), .val (.int rm), .val (.int rs), .val (.int f1), .val (.int f2), .val (.int f3), .val (.int f4), .val (.int (0 : Int32)), .val (.ref b90), .val v1, .val v2, .val v3, .val v4, .val (.ref b104), .val (.ref ou)] [(.ref ou)]))
    refine own_by (fun _ k => XS.ifnonnullYes X106.here hx rfl (pc0 := 238) (pc' := 243) rfl (hb hby at_238) rfl (by decide) (by decide) k) ?_
    show own_End p e below _ (T106.setTop (mkF m 243 #[.val (.long q1), .second, .val (.long q2), .second, .val (.long q3), .second, .val (.long q4), .second, .val (.int p5), .val (.int ga), .val (.int gt), .val (.int gm), .val (.int gs), .val (.int ra), .val (.int rt), .val (.int rm), .val (.int rs), .val (.int f1), .val (.int f2), .val (.int f3), .val (.int f4), .val (.int (0 : Int32)), .val (.ref b90), .val v1, .val v2, .val v3, .val v4, .val (.ref b104), .val (.ref ou)] []))
    refine own_by (fun _ k => XS.aload X106.here hx rfl (hb hby at_243) rfl rfl k) ?_
    show own_End p e below _ (T106.setTop (mkF m 245 #[.val (.long q1), .second, .val (.long q2), .second, .val (.long q3), .second, .val (.long q4), .second, .val (.int p5), .val (.int ga), .val (.int gt), .val (.int gm), .val (.int gs), .val (.int ra), .val (.int rt), .val (.int rm), .val (.int rs), .val (.int f1), .val (.int f2), .val (.int f3), .val (.int f4), .val (.int (0 : Int32)), .val (.ref b90), .val v1, .val v2, .val v3, .val v4, .val (.ref b104), .val (.ref ou)] [(.ref ou)]))
    obtain ⟨cq107, kq107, q107a, q107b, q107c⟩ := isOf hZ106 rfl Fo106.1
    obtain ⟨_, _, ⟨T107, L107, k107, n107⟩, -, X107, ⟨Lc107, hQ107, l107, y107, z107⟩, st107⟩ := X106.virtualBack hx (y := (⟨"com/example/hongdae/hongdae/sale/WaitingRoom", "admitPerTick", "()I"⟩ : MethodName)) (z := (⟨"com/example/hongdae/hongdae/sale/WaitingRoom", "admitPerTick", "()I"⟩ : MethodName)) hown106 (mvT hZ106 (hw _ (List.mem_of_getElem? (i := 108) rfl))) (mvT hZ106 (hw _ (List.mem_of_getElem? (i := 51) rfl))) (notFace_of_selects (args := #[]) (mvT hZ106 (hw _ (List.mem_of_getElem? (i := 53) rfl)))) (mvT hZ106 (hw _ (List.mem_of_getElem? (i := 53) rfl))) (mvT hZ106 (hw _ (List.mem_of_getElem? (i := 52) rfl))) (by decide) (own_back (W := 0) (own_get1 l Z a0 hw [] ou (own_sel f1 ga ra) T106.heap n0 Fo106.2.1) hZ106 (hw _ (List.mem_of_getElem? (i := 54) rfl)) (hw _ (List.mem_of_getElem? (i := 2) rfl)) (by decide) (by decide)) q107a q107c (g := (mkF m 245 #[.val (.long q1), .second, .val (.long q2), .second, .val (.long q3), .second, .val (.long q4), .second, .val (.int p5), .val (.int ga), .val (.int gt), .val (.int gm), .val (.int gs), .val (.int ra), .val (.int rt), .val (.int rm), .val (.int rs), .val (.int f1), .val (.int f2), .val (.int f3), .val (.int f4), .val (.int (0 : Int32)), .val (.ref b90), .val v1, .val v2, .val v3, .val v4, .val (.ref b104), .val (.ref ou)] [(.ref ou)])) rfl (by rw [hml]; rfl) (Steps.refl _) (argsL := []) (rest := []) (lenOf own_pd3 rfl) rfl (by show 2 * 0 + _ ≤ _; exact Nat.le_of_eq rfl) (hb hby at_245) (fun _ _ => ⟨rfl, rfl, (by decide : 19 + 0 ≤ _), (by decide : 196 + 0 ≤ _)⟩)
    dsimp only [Pt.U, Pt.locs, Pt.cells, Pt.slots] at X107 l107 y107 z107 st107 hQ107
    subst l107 y107 z107
    obtain ⟨rfl, N107q, e107⟩ := hQ107
    have N107 := Fr.app N106 N107q
    refine own_by (fun _ k => st107.trans k) ?_
    have Fo107 := Fo106
    show own_End p e below _ (T107.setTop (mkF m 248 #[.val (.long q1), .second, .val (.long q2), .second, .val (.long q3), .second, .val (.long q4), .second, .val (.int p5), .val (.int ga), .val (.int gt), .val (.int gm), .val (.int gs), .val (.int ra), .val (.int rt), .val (.int rm), .val (.int rs), .val (.int f1), .val (.int f2), .val (.int f3), .val (.int f4), .val (.int (0 : Int32)), .val (.ref b90), .val v1, .val v2, .val v3, .val v4, .val (.ref b104), .val (.ref ou)] [(.int (own_sel f1 ga ra))]))
    refine own_by (fun _ k => XS.iload X107.here hx rfl (hb hby at_248) rfl k) ?_
    show own_End p e below _ (T107.setTop (mkF m 250 #[.val (.long q1), .second, .val (.long q2), .second, .val (.long q3), .second, .val (.long q4), .second, .val (.int p5), .val (.int ga), .val (.int gt), .val (.int gm), .val (.int gs), .val (.int ra), .val (.int rt), .val (.int rm), .val (.int rs), .val (.int f1), .val (.int f2), .val (.int f3), .val (.int f4), .val (.int (0 : Int32)), .val (.ref b90), .val v1, .val v2, .val v3, .val v4, .val (.ref b104), .val (.ref ou)] [(.int f1), (.int (own_sel f1 ga ra))]))
    refine own_by (fun _ k => XS.iload X107.here hx rfl (hb hby at_250) rfl k) ?_
    show own_End p e below _ (T107.setTop (mkF m 252 #[.val (.long q1), .second, .val (.long q2), .second, .val (.long q3), .second, .val (.long q4), .second, .val (.int p5), .val (.int ga), .val (.int gt), .val (.int gm), .val (.int gs), .val (.int ra), .val (.int rt), .val (.int rm), .val (.int rs), .val (.int f1), .val (.int f2), .val (.int f3), .val (.int f4), .val (.int (0 : Int32)), .val (.ref b90), .val v1, .val v2, .val v3, .val v4, .val (.ref b104), .val (.ref ou)] [(.int ga), (.int f1), (.int (own_sel f1 ga ra))]))
    refine own_by (fun _ k => XS.iload X107.here hx rfl (hb hby at_252) rfl k) ?_
    show own_End p e below _ (T107.setTop (mkF m 254 #[.val (.long q1), .second, .val (.long q2), .second, .val (.long q3), .second, .val (.long q4), .second, .val (.int p5), .val (.int ga), .val (.int gt), .val (.int gm), .val (.int gs), .val (.int ra), .val (.int rt), .val (.int rm), .val (.int rs), .val (.int f1), .val (.int f2), .val (.int f3), .val (.int f4), .val (.int (0 : Int32)), .val (.ref b90), .val v1, .val v2, .val v3, .val v4, .val (.ref b104), .val (.ref ou)] [(.int (0 : Int32)), (.int ga), (.int f1), (.int (own_sel f1 ga ra))]))
    refine own_by (fun _ k => XS.iload X107.here hx rfl (hb hby at_254) rfl k) ?_
    show own_End p e below _ (T107.setTop (mkF m 256 #[.val (.long q1), .second, .val (.long q2), .second, .val (.long q3), .second, .val (.long q4), .second, .val (.int p5), .val (.int ga), .val (.int gt), .val (.int gm), .val (.int gs), .val (.int ra), .val (.int rt), .val (.int rm), .val (.int rs), .val (.int f1), .val (.int f2), .val (.int f3), .val (.int f4), .val (.int (0 : Int32)), .val (.ref b90), .val v1, .val v2, .val v3, .val v4, .val (.ref b104), .val (.ref ou)] [(.int ra), (.int (0 : Int32)), (.int ga), (.int f1), (.int (own_sel f1 ga ra))]))
    refine own_by (fun _ k => XS.sipush X107.here hx rfl (hb hby at_256) k) ?_
    show own_End p e below _ (T107.setTop (mkF m 259 #[.val (.long q1), .second, .val (.long q2), .second, .val (.long q3), .second, .val (.long q4), .second, .val (.int p5), .val (.int ga), .val (.int gt), .val (.int gm), .val (.int gs), .val (.int ra), .val (.int rt), .val (.int rm), .val (.int rs), .val (.int f1), .val (.int f2), .val (.int f3), .val (.int f4), .val (.int (0 : Int32)), .val (.ref b90), .val v1, .val v2, .val v3, .val v4, .val (.ref b104), .val (.ref ou)] [(.int (3000 : Int32)), (.int ra), (.int (0 : Int32)), (.int ga), (.int f1), (.int (own_sel f1 ga ra))]))
    obtain ⟨_, _, ⟨T108, L108, k108, n108⟩, -, X108, ⟨Lc108, hQ108, l108, y108, z108⟩, st108⟩ := Jvm.LawKit.callS X107 hx (y := (⟨"com/example/hongdae/hongdae/sale/ChangeApplyToPinLaw", "expect", "(ZIZII)I"⟩ : MethodName)) hown106 (mvT hZ106 (hw _ (List.mem_of_getElem? (i := 109) rfl))) (mvT hZ106 (hw _ (List.mem_of_getElem? (i := 110) rfl))) (mvT hZ106 (hw _ (List.mem_of_getElem? (i := 111) rfl))) (mvT hZ106 (hw _ (List.mem_of_getElem? (i := 112) rfl))) (by decide) (own_back (W := 1) (own_exp0 l Z a0 hw [] f1 ga ra (3000 : Int32) T106.heap n0) hZ106 (hw _ (List.mem_of_getElem? (i := 112) rfl)) (hw _ (List.mem_of_getElem? (i := 111) rfl)) (by decide) (by decide)) (g := (mkF m 259 #[.val (.long q1), .second, .val (.long q2), .second, .val (.long q3), .second, .val (.long q4), .second, .val (.int p5), .val (.int ga), .val (.int gt), .val (.int gm), .val (.int gs), .val (.int ra), .val (.int rt), .val (.int rm), .val (.int rs), .val (.int f1), .val (.int f2), .val (.int f3), .val (.int f4), .val (.int (0 : Int32)), .val (.ref b90), .val v1, .val v2, .val v3, .val v4, .val (.ref b104), .val (.ref ou)] [(.int (3000 : Int32)), (.int ra), (.int (0 : Int32)), (.int ga), (.int f1), (.int (own_sel f1 ga ra))])) rfl (by rw [hml]; rfl) (argsL := [(.int f1), (.int ga), (.int (0 : Int32)), (.int ra), (.int (3000 : Int32))]) (rest := [(.int (own_sel f1 ga ra))]) (lenOf own_pd9 rfl) rfl (by show 2 * 0 + _ ≤ _; exact Nat.le_of_eq rfl) (hb hby at_259) (fun _ _ => ⟨rfl, e107, (by decide : 19 + 0 ≤ _), (by decide : 196 + 0 ≤ _)⟩)
    dsimp only [Pt.U, Pt.locs, Pt.cells, Pt.slots] at X108 l108 y108 z108 st108 hQ108
    subst l108 y108 z108
    obtain ⟨rfl, N108q, e108⟩ := hQ108
    have N108 := Fr.app N107 N108q
    refine own_by st108 ?_
    show own_End p e below _ (T108.setTop (mkF m 262 #[.val (.long q1), .second, .val (.long q2), .second, .val (.long q3), .second, .val (.long q4), .second, .val (.int p5), .val (.int ga), .val (.int gt), .val (.int gm), .val (.int gs), .val (.int ra), .val (.int rt), .val (.int rm), .val (.int rs), .val (.int f1), .val (.int f2), .val (.int f3), .val (.int f4), .val (.int (0 : Int32)), .val (.ref b90), .val v1, .val v2, .val v3, .val v4, .val (.ref b104), .val (.ref ou)] [(.int (own_sel f1 ga ra)), (.int (own_sel f1 ga ra))]))
    refine own_by (fun _ k => XS.icmpNo X108.here hx rfl (hb hby at_262) rfl (teq rfl).2 k) ?_
    show own_End p e below _ (T108.setTop (mkF m 265 #[.val (.long q1), .second, .val (.long q2), .second, .val (.long q3), .second, .val (.long q4), .second, .val (.int p5), .val (.int ga), .val (.int gt), .val (.int gm), .val (.int gs), .val (.int ra), .val (.int rt), .val (.int rm), .val (.int rs), .val (.int f1), .val (.int f2), .val (.int f3), .val (.int f4), .val (.int (0 : Int32)), .val (.ref b90), .val v1, .val v2, .val v3, .val v4, .val (.ref b104), .val (.ref ou)] []))
    refine own_by (fun _ k => XS.aload X108.here hx rfl (hb hby at_265) rfl rfl k) ?_
    show own_End p e below _ (T108.setTop (mkF m 267 #[.val (.long q1), .second, .val (.long q2), .second, .val (.long q3), .second, .val (.long q4), .second, .val (.int p5), .val (.int ga), .val (.int gt), .val (.int gm), .val (.int gs), .val (.int ra), .val (.int rt), .val (.int rm), .val (.int rs), .val (.int f1), .val (.int f2), .val (.int f3), .val (.int f4), .val (.int (0 : Int32)), .val (.ref b90), .val v1, .val v2, .val v3, .val v4, .val (.ref b104), .val (.ref ou)] [(.ref ou)]))
    obtain ⟨cq109, kq109, q109a, q109b, q109c⟩ := isOf hZ106 e108 Fo106.1
    obtain ⟨_, _, ⟨T109, L109, k109, n109⟩, -, X109, ⟨Lc109, hQ109, l109, y109, z109⟩, st109⟩ := X108.virtualBack hx (y := (⟨"com/example/hongdae/hongdae/sale/WaitingRoom", "tickSeconds", "()I"⟩ : MethodName)) (z := (⟨"com/example/hongdae/hongdae/sale/WaitingRoom", "tickSeconds", "()I"⟩ : MethodName)) hown106 (mvT hZ106 (hw _ (List.mem_of_getElem? (i := 113) rfl))) (mvT hZ106 (hw _ (List.mem_of_getElem? (i := 93) rfl))) (notFace_of_selects (args := #[]) (mvT hZ106 (hw _ (List.mem_of_getElem? (i := 95) rfl)))) (mvT hZ106 (hw _ (List.mem_of_getElem? (i := 95) rfl))) (mvT hZ106 (hw _ (List.mem_of_getElem? (i := 94) rfl))) (by decide) (own_back (W := 0) (own_get2 l Z a0 hw [] ou (own_sel f2 gt rt) T106.heap n0 Fo106.2.2.1) hZ106 (hw _ (List.mem_of_getElem? (i := 96) rfl)) (hw _ (List.mem_of_getElem? (i := 2) rfl)) (by decide) (by decide)) q109a q109c (g := (mkF m 267 #[.val (.long q1), .second, .val (.long q2), .second, .val (.long q3), .second, .val (.long q4), .second, .val (.int p5), .val (.int ga), .val (.int gt), .val (.int gm), .val (.int gs), .val (.int ra), .val (.int rt), .val (.int rm), .val (.int rs), .val (.int f1), .val (.int f2), .val (.int f3), .val (.int f4), .val (.int (0 : Int32)), .val (.ref b90), .val v1, .val v2, .val v3, .val v4, .val (.ref b104), .val (.ref ou)] [(.ref ou)])) rfl (by rw [hml]; rfl) (Steps.refl _) (argsL := []) (rest := []) (lenOf own_pd3 rfl) rfl (by show 2 * 0 + _ ≤ _; exact Nat.le_of_eq rfl) (hb hby at_267) (fun _ _ => ⟨rfl, e108, (by decide : 19 + 0 ≤ _), (by decide : 196 + 0 ≤ _)⟩)
    dsimp only [Pt.U, Pt.locs, Pt.cells, Pt.slots] at X109 l109 y109 z109 st109 hQ109
    subst l109 y109 z109
    obtain ⟨rfl, N109q, e109⟩ := hQ109
    have N109 := Fr.app N108 N109q
    refine own_by (fun _ k => st109.trans k) ?_
    have Fo109 := Fo106
    show own_End p e below _ (T109.setTop (mkF m 270 #[.val (.long q1), .second, .val (.long q2), .second, .val (.long q3), .second, .val (.long q4), .second, .val (.int p5), .val (.int ga), .val (.int gt), .val (.int gm), .val (.int gs), .val (.int ra), .val (.int rt), .val (.int rm), .val (.int rs), .val (.int f1), .val (.int f2), .val (.int f3), .val (.int f4), .val (.int (0 : Int32)), .val (.ref b90), .val v1, .val v2, .val v3, .val v4, .val (.ref b104), .val (.ref ou)] [(.int (own_sel f2 gt rt))]))
    refine own_by (fun _ k => XS.iload X109.here hx rfl (hb hby at_270) rfl k) ?_
    show own_End p e below _ (T109.setTop (mkF m 272 #[.val (.long q1), .second, .val (.long q2), .second, .val (.long q3), .second, .val (.long q4), .second, .val (.int p5), .val (.int ga), .val (.int gt), .val (.int gm), .val (.int gs), .val (.int ra), .val (.int rt), .val (.int rm), .val (.int rs), .val (.int f1), .val (.int f2), .val (.int f3), .val (.int f4), .val (.int (0 : Int32)), .val (.ref b90), .val v1, .val v2, .val v3, .val v4, .val (.ref b104), .val (.ref ou)] [(.int f2), (.int (own_sel f2 gt rt))]))
    refine own_by (fun _ k => XS.iload X109.here hx rfl (hb hby at_272) rfl k) ?_
    show own_End p e below _ (T109.setTop (mkF m 274 #[.val (.long q1), .second, .val (.long q2), .second, .val (.long q3), .second, .val (.long q4), .second, .val (.int p5), .val (.int ga), .val (.int gt), .val (.int gm), .val (.int gs), .val (.int ra), .val (.int rt), .val (.int rm), .val (.int rs), .val (.int f1), .val (.int f2), .val (.int f3), .val (.int f4), .val (.int (0 : Int32)), .val (.ref b90), .val v1, .val v2, .val v3, .val v4, .val (.ref b104), .val (.ref ou)] [(.int gt), (.int f2), (.int (own_sel f2 gt rt))]))
    refine own_by (fun _ k => XS.iload X109.here hx rfl (hb hby at_274) rfl k) ?_
    show own_End p e below _ (T109.setTop (mkF m 276 #[.val (.long q1), .second, .val (.long q2), .second, .val (.long q3), .second, .val (.long q4), .second, .val (.int p5), .val (.int ga), .val (.int gt), .val (.int gm), .val (.int gs), .val (.int ra), .val (.int rt), .val (.int rm), .val (.int rs), .val (.int f1), .val (.int f2), .val (.int f3), .val (.int f4), .val (.int (0 : Int32)), .val (.ref b90), .val v1, .val v2, .val v3, .val v4, .val (.ref b104), .val (.ref ou)] [(.int (0 : Int32)), (.int gt), (.int f2), (.int (own_sel f2 gt rt))]))
    refine own_by (fun _ k => XS.iload X109.here hx rfl (hb hby at_276) rfl k) ?_
    show own_End p e below _ (T109.setTop (mkF m 278 #[.val (.long q1), .second, .val (.long q2), .second, .val (.long q3), .second, .val (.long q4), .second, .val (.int p5), .val (.int ga), .val (.int gt), .val (.int gm), .val (.int gs), .val (.int ra), .val (.int rt), .val (.int rm), .val (.int rs), .val (.int f1), .val (.int f2), .val (.int f3), .val (.int f4), .val (.int (0 : Int32)), .val (.ref b90), .val v1, .val v2, .val v3, .val v4, .val (.ref b104), .val (.ref ou)] [(.int rt), (.int (0 : Int32)), (.int gt), (.int f2), (.int (own_sel f2 gt rt))]))
    refine own_by (fun _ k => XS.bipush X109.here hx rfl (hb hby at_278) k) ?_
    show own_End p e below _ (T109.setTop (mkF m 280 #[.val (.long q1), .second, .val (.long q2), .second, .val (.long q3), .second, .val (.long q4), .second, .val (.int p5), .val (.int ga), .val (.int gt), .val (.int gm), .val (.int gs), .val (.int ra), .val (.int rt), .val (.int rm), .val (.int rs), .val (.int f1), .val (.int f2), .val (.int f3), .val (.int f4), .val (.int (0 : Int32)), .val (.ref b90), .val v1, .val v2, .val v3, .val v4, .val (.ref b104), .val (.ref ou)] [(.int (10 : Int32)), (.int rt), (.int (0 : Int32)), (.int gt), (.int f2), (.int (own_sel f2 gt rt))]))
    obtain ⟨_, _, ⟨T110, L110, k110, n110⟩, -, X110, ⟨Lc110, hQ110, l110, y110, z110⟩, st110⟩ := Jvm.LawKit.callS X109 hx (y := (⟨"com/example/hongdae/hongdae/sale/ChangeApplyToPinLaw", "expect", "(ZIZII)I"⟩ : MethodName)) hown106 (mvT hZ106 (hw _ (List.mem_of_getElem? (i := 109) rfl))) (mvT hZ106 (hw _ (List.mem_of_getElem? (i := 110) rfl))) (mvT hZ106 (hw _ (List.mem_of_getElem? (i := 111) rfl))) (mvT hZ106 (hw _ (List.mem_of_getElem? (i := 112) rfl))) (by decide) (own_back (W := 1) (own_exp0 l Z a0 hw [] f2 gt rt (10 : Int32) T106.heap n0) hZ106 (hw _ (List.mem_of_getElem? (i := 112) rfl)) (hw _ (List.mem_of_getElem? (i := 111) rfl)) (by decide) (by decide)) (g := (mkF m 280 #[.val (.long q1), .second, .val (.long q2), .second, .val (.long q3), .second, .val (.long q4), .second, .val (.int p5), .val (.int ga), .val (.int gt), .val (.int gm), .val (.int gs), .val (.int ra), .val (.int rt), .val (.int rm), .val (.int rs), .val (.int f1), .val (.int f2), .val (.int f3), .val (.int f4), .val (.int (0 : Int32)), .val (.ref b90), .val v1, .val v2, .val v3, .val v4, .val (.ref b104), .val (.ref ou)] [(.int (10 : Int32)), (.int rt), (.int (0 : Int32)), (.int gt), (.int f2), (.int (own_sel f2 gt rt))])) rfl (by rw [hml]; rfl) (argsL := [(.int f2), (.int gt), (.int (0 : Int32)), (.int rt), (.int (10 : Int32))]) (rest := [(.int (own_sel f2 gt rt))]) (lenOf own_pd9 rfl) rfl (by show 2 * 0 + _ ≤ _; exact Nat.le_of_eq rfl) (hb hby at_280) (fun _ _ => ⟨rfl, e109, (by decide : 19 + 0 ≤ _), (by decide : 196 + 0 ≤ _)⟩)
    dsimp only [Pt.U, Pt.locs, Pt.cells, Pt.slots] at X110 l110 y110 z110 st110 hQ110
    subst l110 y110 z110
    obtain ⟨rfl, N110q, e110⟩ := hQ110
    have N110 := Fr.app N109 N110q
    refine own_by st110 ?_
    show own_End p e below _ (T110.setTop (mkF m 283 #[.val (.long q1), .second, .val (.long q2), .second, .val (.long q3), .second, .val (.long q4), .second, .val (.int p5), .val (.int ga), .val (.int gt), .val (.int gm), .val (.int gs), .val (.int ra), .val (.int rt), .val (.int rm), .val (.int rs), .val (.int f1), .val (.int f2), .val (.int f3), .val (.int f4), .val (.int (0 : Int32)), .val (.ref b90), .val v1, .val v2, .val v3, .val v4, .val (.ref b104), .val (.ref ou)] [(.int (own_sel f2 gt rt)), (.int (own_sel f2 gt rt))]))
    refine own_by (fun _ k => XS.icmpNo X110.here hx rfl (hb hby at_283) rfl (teq rfl).2 k) ?_
    show own_End p e below _ (T110.setTop (mkF m 286 #[.val (.long q1), .second, .val (.long q2), .second, .val (.long q3), .second, .val (.long q4), .second, .val (.int p5), .val (.int ga), .val (.int gt), .val (.int gm), .val (.int gs), .val (.int ra), .val (.int rt), .val (.int rm), .val (.int rs), .val (.int f1), .val (.int f2), .val (.int f3), .val (.int f4), .val (.int (0 : Int32)), .val (.ref b90), .val v1, .val v2, .val v3, .val v4, .val (.ref b104), .val (.ref ou)] []))
    refine own_by (fun _ k => XS.aload X110.here hx rfl (hb hby at_286) rfl rfl k) ?_
    show own_End p e below _ (T110.setTop (mkF m 288 #[.val (.long q1), .second, .val (.long q2), .second, .val (.long q3), .second, .val (.long q4), .second, .val (.int p5), .val (.int ga), .val (.int gt), .val (.int gm), .val (.int gs), .val (.int ra), .val (.int rt), .val (.int rm), .val (.int rs), .val (.int f1), .val (.int f2), .val (.int f3), .val (.int f4), .val (.int (0 : Int32)), .val (.ref b90), .val v1, .val v2, .val v3, .val v4, .val (.ref b104), .val (.ref ou)] [(.ref ou)]))
    obtain ⟨cq111, kq111, q111a, q111b, q111c⟩ := isOf hZ106 e110 Fo106.1
    obtain ⟨_, _, ⟨T111, L111, k111, n111⟩, -, X111, ⟨Lc111, hQ111, l111, y111, z111⟩, st111⟩ := X110.virtualBack hx (y := (⟨"com/example/hongdae/hongdae/sale/WaitingRoom", "maxActive", "()I"⟩ : MethodName)) (z := (⟨"com/example/hongdae/hongdae/sale/WaitingRoom", "maxActive", "()I"⟩ : MethodName)) hown106 (mvT hZ106 (hw _ (List.mem_of_getElem? (i := 114) rfl))) (mvT hZ106 (hw _ (List.mem_of_getElem? (i := 98) rfl))) (notFace_of_selects (args := #[]) (mvT hZ106 (hw _ (List.mem_of_getElem? (i := 100) rfl)))) (mvT hZ106 (hw _ (List.mem_of_getElem? (i := 100) rfl))) (mvT hZ106 (hw _ (List.mem_of_getElem? (i := 99) rfl))) (by decide) (own_back (W := 0) (own_get3 l Z a0 hw [] ou (own_sel f3 gm rm) T106.heap n0 Fo106.2.2.2.1) hZ106 (hw _ (List.mem_of_getElem? (i := 101) rfl)) (hw _ (List.mem_of_getElem? (i := 2) rfl)) (by decide) (by decide)) q111a q111c (g := (mkF m 288 #[.val (.long q1), .second, .val (.long q2), .second, .val (.long q3), .second, .val (.long q4), .second, .val (.int p5), .val (.int ga), .val (.int gt), .val (.int gm), .val (.int gs), .val (.int ra), .val (.int rt), .val (.int rm), .val (.int rs), .val (.int f1), .val (.int f2), .val (.int f3), .val (.int f4), .val (.int (0 : Int32)), .val (.ref b90), .val v1, .val v2, .val v3, .val v4, .val (.ref b104), .val (.ref ou)] [(.ref ou)])) rfl (by rw [hml]; rfl) (Steps.refl _) (argsL := []) (rest := []) (lenOf own_pd3 rfl) rfl (by show 2 * 0 + _ ≤ _; exact Nat.le_of_eq rfl) (hb hby at_288) (fun _ _ => ⟨rfl, e110, (by decide : 19 + 0 ≤ _), (by decide : 196 + 0 ≤ _)⟩)
    dsimp only [Pt.U, Pt.locs, Pt.cells, Pt.slots] at X111 l111 y111 z111 st111 hQ111
    subst l111 y111 z111
    obtain ⟨rfl, N111q, e111⟩ := hQ111
    have N111 := Fr.app N110 N111q
    refine own_by (fun _ k => st111.trans k) ?_
    have Fo111 := Fo106
    show own_End p e below _ (T111.setTop (mkF m 291 #[.val (.long q1), .second, .val (.long q2), .second, .val (.long q3), .second, .val (.long q4), .second, .val (.int p5), .val (.int ga), .val (.int gt), .val (.int gm), .val (.int gs), .val (.int ra), .val (.int rt), .val (.int rm), .val (.int rs), .val (.int f1), .val (.int f2), .val (.int f3), .val (.int f4), .val (.int (0 : Int32)), .val (.ref b90), .val v1, .val v2, .val v3, .val v4, .val (.ref b104), .val (.ref ou)] [(.int (own_sel f3 gm rm))]))
    refine own_by (fun _ k => XS.iload X111.here hx rfl (hb hby at_291) rfl k) ?_
    show own_End p e below _ (T111.setTop (mkF m 293 #[.val (.long q1), .second, .val (.long q2), .second, .val (.long q3), .second, .val (.long q4), .second, .val (.int p5), .val (.int ga), .val (.int gt), .val (.int gm), .val (.int gs), .val (.int ra), .val (.int rt), .val (.int rm), .val (.int rs), .val (.int f1), .val (.int f2), .val (.int f3), .val (.int f4), .val (.int (0 : Int32)), .val (.ref b90), .val v1, .val v2, .val v3, .val v4, .val (.ref b104), .val (.ref ou)] [(.int f3), (.int (own_sel f3 gm rm))]))
    refine own_by (fun _ k => XS.iload X111.here hx rfl (hb hby at_293) rfl k) ?_
    show own_End p e below _ (T111.setTop (mkF m 295 #[.val (.long q1), .second, .val (.long q2), .second, .val (.long q3), .second, .val (.long q4), .second, .val (.int p5), .val (.int ga), .val (.int gt), .val (.int gm), .val (.int gs), .val (.int ra), .val (.int rt), .val (.int rm), .val (.int rs), .val (.int f1), .val (.int f2), .val (.int f3), .val (.int f4), .val (.int (0 : Int32)), .val (.ref b90), .val v1, .val v2, .val v3, .val v4, .val (.ref b104), .val (.ref ou)] [(.int gm), (.int f3), (.int (own_sel f3 gm rm))]))
    refine own_by (fun _ k => XS.iload X111.here hx rfl (hb hby at_295) rfl k) ?_
    show own_End p e below _ (T111.setTop (mkF m 297 #[.val (.long q1), .second, .val (.long q2), .second, .val (.long q3), .second, .val (.long q4), .second, .val (.int p5), .val (.int ga), .val (.int gt), .val (.int gm), .val (.int gs), .val (.int ra), .val (.int rt), .val (.int rm), .val (.int rs), .val (.int f1), .val (.int f2), .val (.int f3), .val (.int f4), .val (.int (0 : Int32)), .val (.ref b90), .val v1, .val v2, .val v3, .val v4, .val (.ref b104), .val (.ref ou)] [(.int (0 : Int32)), (.int gm), (.int f3), (.int (own_sel f3 gm rm))]))
    refine own_by (fun _ k => XS.iload X111.here hx rfl (hb hby at_297) rfl k) ?_
    show own_End p e below _ (T111.setTop (mkF m 299 #[.val (.long q1), .second, .val (.long q2), .second, .val (.long q3), .second, .val (.long q4), .second, .val (.int p5), .val (.int ga), .val (.int gt), .val (.int gm), .val (.int gs), .val (.int ra), .val (.int rt), .val (.int rm), .val (.int rs), .val (.int f1), .val (.int f2), .val (.int f3), .val (.int f4), .val (.int (0 : Int32)), .val (.ref b90), .val v1, .val v2, .val v3, .val v4, .val (.ref b104), .val (.ref ou)] [(.int rm), (.int (0 : Int32)), (.int gm), (.int f3), (.int (own_sel f3 gm rm))]))
    refine own_by (fun _ k => XS.iconst X111.here hx rfl (hb hby at_299) k) ?_
    show own_End p e below _ (T111.setTop (mkF m 300 #[.val (.long q1), .second, .val (.long q2), .second, .val (.long q3), .second, .val (.long q4), .second, .val (.int p5), .val (.int ga), .val (.int gt), .val (.int gm), .val (.int gs), .val (.int ra), .val (.int rt), .val (.int rm), .val (.int rs), .val (.int f1), .val (.int f2), .val (.int f3), .val (.int f4), .val (.int (0 : Int32)), .val (.ref b90), .val v1, .val v2, .val v3, .val v4, .val (.ref b104), .val (.ref ou)] [(.int (0 : Int32)), (.int rm), (.int (0 : Int32)), (.int gm), (.int f3), (.int (own_sel f3 gm rm))]))
    obtain ⟨_, _, ⟨T112, L112, k112, n112⟩, -, X112, ⟨Lc112, hQ112, l112, y112, z112⟩, st112⟩ := Jvm.LawKit.callS X111 hx (y := (⟨"com/example/hongdae/hongdae/sale/ChangeApplyToPinLaw", "expect", "(ZIZII)I"⟩ : MethodName)) hown106 (mvT hZ106 (hw _ (List.mem_of_getElem? (i := 109) rfl))) (mvT hZ106 (hw _ (List.mem_of_getElem? (i := 110) rfl))) (mvT hZ106 (hw _ (List.mem_of_getElem? (i := 111) rfl))) (mvT hZ106 (hw _ (List.mem_of_getElem? (i := 112) rfl))) (by decide) (own_back (W := 1) (own_exp0 l Z a0 hw [] f3 gm rm (0 : Int32) T106.heap n0) hZ106 (hw _ (List.mem_of_getElem? (i := 112) rfl)) (hw _ (List.mem_of_getElem? (i := 111) rfl)) (by decide) (by decide)) (g := (mkF m 300 #[.val (.long q1), .second, .val (.long q2), .second, .val (.long q3), .second, .val (.long q4), .second, .val (.int p5), .val (.int ga), .val (.int gt), .val (.int gm), .val (.int gs), .val (.int ra), .val (.int rt), .val (.int rm), .val (.int rs), .val (.int f1), .val (.int f2), .val (.int f3), .val (.int f4), .val (.int (0 : Int32)), .val (.ref b90), .val v1, .val v2, .val v3, .val v4, .val (.ref b104), .val (.ref ou)] [(.int (0 : Int32)), (.int rm), (.int (0 : Int32)), (.int gm), (.int f3), (.int (own_sel f3 gm rm))])) rfl (by rw [hml]; rfl) (argsL := [(.int f3), (.int gm), (.int (0 : Int32)), (.int rm), (.int (0 : Int32))]) (rest := [(.int (own_sel f3 gm rm))]) (lenOf own_pd9 rfl) rfl (by show 2 * 0 + _ ≤ _; exact Nat.le_of_eq rfl) (hb hby at_300) (fun _ _ => ⟨rfl, e111, (by decide : 19 + 0 ≤ _), (by decide : 196 + 0 ≤ _)⟩)
    dsimp only [Pt.U, Pt.locs, Pt.cells, Pt.slots] at X112 l112 y112 z112 st112 hQ112
    subst l112 y112 z112
    obtain ⟨rfl, N112q, e112⟩ := hQ112
    have N112 := Fr.app N111 N112q
    refine own_by st112 ?_
    show own_End p e below _ (T112.setTop (mkF m 303 #[.val (.long q1), .second, .val (.long q2), .second, .val (.long q3), .second, .val (.long q4), .second, .val (.int p5), .val (.int ga), .val (.int gt), .val (.int gm), .val (.int gs), .val (.int ra), .val (.int rt), .val (.int rm), .val (.int rs), .val (.int f1), .val (.int f2), .val (.int f3), .val (.int f4), .val (.int (0 : Int32)), .val (.ref b90), .val v1, .val v2, .val v3, .val v4, .val (.ref b104), .val (.ref ou)] [(.int (own_sel f3 gm rm)), (.int (own_sel f3 gm rm))]))
    refine own_by (fun _ k => XS.icmpNo X112.here hx rfl (hb hby at_303) rfl (teq rfl).2 k) ?_
    show own_End p e below _ (T112.setTop (mkF m 306 #[.val (.long q1), .second, .val (.long q2), .second, .val (.long q3), .second, .val (.long q4), .second, .val (.int p5), .val (.int ga), .val (.int gt), .val (.int gm), .val (.int gs), .val (.int ra), .val (.int rt), .val (.int rm), .val (.int rs), .val (.int f1), .val (.int f2), .val (.int f3), .val (.int f4), .val (.int (0 : Int32)), .val (.ref b90), .val v1, .val v2, .val v3, .val v4, .val (.ref b104), .val (.ref ou)] []))
    refine own_by (fun _ k => XS.aload X112.here hx rfl (hb hby at_306) rfl rfl k) ?_
    show own_End p e below _ (T112.setTop (mkF m 308 #[.val (.long q1), .second, .val (.long q2), .second, .val (.long q3), .second, .val (.long q4), .second, .val (.int p5), .val (.int ga), .val (.int gt), .val (.int gm), .val (.int gs), .val (.int ra), .val (.int rt), .val (.int rm), .val (.int rs), .val (.int f1), .val (.int f2), .val (.int f3), .val (.int f4), .val (.int (0 : Int32)), .val (.ref b90), .val v1, .val v2, .val v3, .val v4, .val (.ref b104), .val (.ref ou)] [(.ref ou)]))
    obtain ⟨cq113, kq113, q113a, q113b, q113c⟩ := isOf hZ106 e112 Fo106.1
    obtain ⟨_, _, ⟨T113, L113, k113, n113⟩, -, X113, ⟨Lc113, hQ113, l113, y113, z113⟩, st113⟩ := X112.virtualBack hx (y := (⟨"com/example/hongdae/hongdae/sale/WaitingRoom", "activeSeconds", "()I"⟩ : MethodName)) (z := (⟨"com/example/hongdae/hongdae/sale/WaitingRoom", "activeSeconds", "()I"⟩ : MethodName)) hown106 (mvT hZ106 (hw _ (List.mem_of_getElem? (i := 115) rfl))) (mvT hZ106 (hw _ (List.mem_of_getElem? (i := 103) rfl))) (notFace_of_selects (args := #[]) (mvT hZ106 (hw _ (List.mem_of_getElem? (i := 105) rfl)))) (mvT hZ106 (hw _ (List.mem_of_getElem? (i := 105) rfl))) (mvT hZ106 (hw _ (List.mem_of_getElem? (i := 104) rfl))) (by decide) (own_back (W := 0) (own_get4 l Z a0 hw [] ou (own_sel f4 gs rs) T106.heap n0 Fo106.2.2.2.2) hZ106 (hw _ (List.mem_of_getElem? (i := 106) rfl)) (hw _ (List.mem_of_getElem? (i := 2) rfl)) (by decide) (by decide)) q113a q113c (g := (mkF m 308 #[.val (.long q1), .second, .val (.long q2), .second, .val (.long q3), .second, .val (.long q4), .second, .val (.int p5), .val (.int ga), .val (.int gt), .val (.int gm), .val (.int gs), .val (.int ra), .val (.int rt), .val (.int rm), .val (.int rs), .val (.int f1), .val (.int f2), .val (.int f3), .val (.int f4), .val (.int (0 : Int32)), .val (.ref b90), .val v1, .val v2, .val v3, .val v4, .val (.ref b104), .val (.ref ou)] [(.ref ou)])) rfl (by rw [hml]; rfl) (Steps.refl _) (argsL := []) (rest := []) (lenOf own_pd3 rfl) rfl (by show 2 * 0 + _ ≤ _; exact Nat.le_of_eq rfl) (hb hby at_308) (fun _ _ => ⟨rfl, e112, (by decide : 19 + 0 ≤ _), (by decide : 196 + 0 ≤ _)⟩)
    dsimp only [Pt.U, Pt.locs, Pt.cells, Pt.slots] at X113 l113 y113 z113 st113 hQ113
    subst l113 y113 z113
    obtain ⟨rfl, N113q, e113⟩ := hQ113
    have N113 := Fr.app N112 N113q
    refine own_by (fun _ k => st113.trans k) ?_
    have Fo113 := Fo106
    show own_End p e below _ (T113.setTop (mkF m 311 #[.val (.long q1), .second, .val (.long q2), .second, .val (.long q3), .second, .val (.long q4), .second, .val (.int p5), .val (.int ga), .val (.int gt), .val (.int gm), .val (.int gs), .val (.int ra), .val (.int rt), .val (.int rm), .val (.int rs), .val (.int f1), .val (.int f2), .val (.int f3), .val (.int f4), .val (.int (0 : Int32)), .val (.ref b90), .val v1, .val v2, .val v3, .val v4, .val (.ref b104), .val (.ref ou)] [(.int (own_sel f4 gs rs))]))
    refine own_by (fun _ k => XS.iload X113.here hx rfl (hb hby at_311) rfl k) ?_
    show own_End p e below _ (T113.setTop (mkF m 313 #[.val (.long q1), .second, .val (.long q2), .second, .val (.long q3), .second, .val (.long q4), .second, .val (.int p5), .val (.int ga), .val (.int gt), .val (.int gm), .val (.int gs), .val (.int ra), .val (.int rt), .val (.int rm), .val (.int rs), .val (.int f1), .val (.int f2), .val (.int f3), .val (.int f4), .val (.int (0 : Int32)), .val (.ref b90), .val v1, .val v2, .val v3, .val v4, .val (.ref b104), .val (.ref ou)] [(.int f4), (.int (own_sel f4 gs rs))]))
    refine own_by (fun _ k => XS.iload X113.here hx rfl (hb hby at_313) rfl k) ?_
    show own_End p e below _ (T113.setTop (mkF m 315 #[.val (.long q1), .second, .val (.long q2), .second, .val (.long q3), .second, .val (.long q4), .second, .val (.int p5), .val (.int ga), .val (.int gt), .val (.int gm), .val (.int gs), .val (.int ra), .val (.int rt), .val (.int rm), .val (.int rs), .val (.int f1), .val (.int f2), .val (.int f3), .val (.int f4), .val (.int (0 : Int32)), .val (.ref b90), .val v1, .val v2, .val v3, .val v4, .val (.ref b104), .val (.ref ou)] [(.int gs), (.int f4), (.int (own_sel f4 gs rs))]))
    refine own_by (fun _ k => XS.iload X113.here hx rfl (hb hby at_315) rfl k) ?_
    show own_End p e below _ (T113.setTop (mkF m 317 #[.val (.long q1), .second, .val (.long q2), .second, .val (.long q3), .second, .val (.long q4), .second, .val (.int p5), .val (.int ga), .val (.int gt), .val (.int gm), .val (.int gs), .val (.int ra), .val (.int rt), .val (.int rm), .val (.int rs), .val (.int f1), .val (.int f2), .val (.int f3), .val (.int f4), .val (.int (0 : Int32)), .val (.ref b90), .val v1, .val v2, .val v3, .val v4, .val (.ref b104), .val (.ref ou)] [(.int (0 : Int32)), (.int gs), (.int f4), (.int (own_sel f4 gs rs))]))
    refine own_by (fun _ k => XS.iload X113.here hx rfl (hb hby at_317) rfl k) ?_
    show own_End p e below _ (T113.setTop (mkF m 319 #[.val (.long q1), .second, .val (.long q2), .second, .val (.long q3), .second, .val (.long q4), .second, .val (.int p5), .val (.int ga), .val (.int gt), .val (.int gm), .val (.int gs), .val (.int ra), .val (.int rt), .val (.int rm), .val (.int rs), .val (.int f1), .val (.int f2), .val (.int f3), .val (.int f4), .val (.int (0 : Int32)), .val (.ref b90), .val v1, .val v2, .val v3, .val v4, .val (.ref b104), .val (.ref ou)] [(.int rs), (.int (0 : Int32)), (.int gs), (.int f4), (.int (own_sel f4 gs rs))]))
    refine own_by (fun _ k => XS.sipush X113.here hx rfl (hb hby at_319) k) ?_
    show own_End p e below _ (T113.setTop (mkF m 322 #[.val (.long q1), .second, .val (.long q2), .second, .val (.long q3), .second, .val (.long q4), .second, .val (.int p5), .val (.int ga), .val (.int gt), .val (.int gm), .val (.int gs), .val (.int ra), .val (.int rt), .val (.int rm), .val (.int rs), .val (.int f1), .val (.int f2), .val (.int f3), .val (.int f4), .val (.int (0 : Int32)), .val (.ref b90), .val v1, .val v2, .val v3, .val v4, .val (.ref b104), .val (.ref ou)] [(.int (300 : Int32)), (.int rs), (.int (0 : Int32)), (.int gs), (.int f4), (.int (own_sel f4 gs rs))]))
    obtain ⟨_, _, ⟨T114, L114, k114, n114⟩, -, X114, ⟨Lc114, hQ114, l114, y114, z114⟩, st114⟩ := Jvm.LawKit.callS X113 hx (y := (⟨"com/example/hongdae/hongdae/sale/ChangeApplyToPinLaw", "expect", "(ZIZII)I"⟩ : MethodName)) hown106 (mvT hZ106 (hw _ (List.mem_of_getElem? (i := 109) rfl))) (mvT hZ106 (hw _ (List.mem_of_getElem? (i := 110) rfl))) (mvT hZ106 (hw _ (List.mem_of_getElem? (i := 111) rfl))) (mvT hZ106 (hw _ (List.mem_of_getElem? (i := 112) rfl))) (by decide) (own_back (W := 1) (own_exp0 l Z a0 hw [] f4 gs rs (300 : Int32) T106.heap n0) hZ106 (hw _ (List.mem_of_getElem? (i := 112) rfl)) (hw _ (List.mem_of_getElem? (i := 111) rfl)) (by decide) (by decide)) (g := (mkF m 322 #[.val (.long q1), .second, .val (.long q2), .second, .val (.long q3), .second, .val (.long q4), .second, .val (.int p5), .val (.int ga), .val (.int gt), .val (.int gm), .val (.int gs), .val (.int ra), .val (.int rt), .val (.int rm), .val (.int rs), .val (.int f1), .val (.int f2), .val (.int f3), .val (.int f4), .val (.int (0 : Int32)), .val (.ref b90), .val v1, .val v2, .val v3, .val v4, .val (.ref b104), .val (.ref ou)] [(.int (300 : Int32)), (.int rs), (.int (0 : Int32)), (.int gs), (.int f4), (.int (own_sel f4 gs rs))])) rfl (by rw [hml]; rfl) (argsL := [(.int f4), (.int gs), (.int (0 : Int32)), (.int rs), (.int (300 : Int32))]) (rest := [(.int (own_sel f4 gs rs))]) (lenOf own_pd9 rfl) rfl (by show 2 * 0 + _ ≤ _; exact Nat.le_of_eq rfl) (hb hby at_322) (fun _ _ => ⟨rfl, e113, (by decide : 19 + 0 ≤ _), (by decide : 196 + 0 ≤ _)⟩)
    dsimp only [Pt.U, Pt.locs, Pt.cells, Pt.slots] at X114 l114 y114 z114 st114 hQ114
    subst l114 y114 z114
    obtain ⟨rfl, N114q, e114⟩ := hQ114
    have N114 := Fr.app N113 N114q
    refine own_by st114 ?_
    show own_End p e below _ (T114.setTop (mkF m 325 #[.val (.long q1), .second, .val (.long q2), .second, .val (.long q3), .second, .val (.long q4), .second, .val (.int p5), .val (.int ga), .val (.int gt), .val (.int gm), .val (.int gs), .val (.int ra), .val (.int rt), .val (.int rm), .val (.int rs), .val (.int f1), .val (.int f2), .val (.int f3), .val (.int f4), .val (.int (0 : Int32)), .val (.ref b90), .val v1, .val v2, .val v3, .val v4, .val (.ref b104), .val (.ref ou)] [(.int (own_sel f4 gs rs)), (.int (own_sel f4 gs rs))]))
    refine own_by (fun _ k => XS.icmpNo X114.here hx rfl (hb hby at_325) rfl (teq rfl).2 k) ?_
    show own_End p e below _ (T114.setTop (mkF m 328 #[.val (.long q1), .second, .val (.long q2), .second, .val (.long q3), .second, .val (.long q4), .second, .val (.int p5), .val (.int ga), .val (.int gt), .val (.int gm), .val (.int gs), .val (.int ra), .val (.int rt), .val (.int rm), .val (.int rs), .val (.int f1), .val (.int f2), .val (.int f3), .val (.int f4), .val (.int (0 : Int32)), .val (.ref b90), .val v1, .val v2, .val v3, .val v4, .val (.ref b104), .val (.ref ou)] []))
    refine own_by (fun _ k => XS.iconst X114.here hx rfl (hb hby at_328) k) ?_
    show own_End p e below _ (T114.setTop (mkF m 329 #[.val (.long q1), .second, .val (.long q2), .second, .val (.long q3), .second, .val (.long q4), .second, .val (.int p5), .val (.int ga), .val (.int gt), .val (.int gm), .val (.int gs), .val (.int ra), .val (.int rt), .val (.int rm), .val (.int rs), .val (.int f1), .val (.int f2), .val (.int f3), .val (.int f4), .val (.int (0 : Int32)), .val (.ref b90), .val v1, .val v2, .val v3, .val v4, .val (.ref b104), .val (.ref ou)] [(.int (1 : Int32))]))
    refine own_by (fun _ k => XS.goto X114.here hx rfl (pc0 := 329) (pc' := 333) rfl (hb hby at_329) (by decide) (by decide) k) ?_
    show own_End p e below _ (T114.setTop (mkF m 333 #[.val (.long q1), .second, .val (.long q2), .second, .val (.long q3), .second, .val (.long q4), .second, .val (.int p5), .val (.int ga), .val (.int gt), .val (.int gm), .val (.int gs), .val (.int ra), .val (.int rt), .val (.int rm), .val (.int rs), .val (.int f1), .val (.int f2), .val (.int f3), .val (.int f4), .val (.int (0 : Int32)), .val (.ref b90), .val v1, .val v2, .val v3, .val v4, .val (.ref b104), .val (.ref ou)] [(.int (1 : Int32))]))
    obtain ⟨fs, hr, hrun, hended, hW⟩ := X114.leaveW (v := (some (.int (1 : Int32)))) hS106 (by rw [e114]; exact (Nat.le_refl _)) (fun h => by rw [Bd.returns] at h; cases h)
    refine ⟨_, _, retN X114 hx (t := .boolean) Bd.returns (by simp) (hb hby at_333) hr, hrun, hended, _, _, rfl, ?_, own_rw hW (by decide) (by decide)⟩
    have hfin : (T114.setFrames fs).heap = T106.heap := e114
    exact ⟨rfl, N114⟩
  · -- 110 False
    refine own_by (fun _ k => XS.ifNo X0.here hx rfl (hb hby at_110) rfl ((if0 _ _).trans (feq hc110_89).1) k) ?_
    show own_End p e below _ (s₁.setTop (mkF m 113 #[.val (.long q1), .second, .val (.long q2), .second, .val (.long q3), .second, .val (.long q4), .second, .val (.int p5), .val (.int ga), .val (.int gt), .val (.int gm), .val (.int gs), .val (.int ra), .val (.int rt), .val (.int rm), .val (.int rs), .val (.int f1), .val (.int f2), .val (.int f3), .val (.int f4), .unset, .unset, .unset, .unset, .unset, .unset, .unset, .unset] []))
    refine own_by (fun _ k => XS.iconst X0.here hx rfl (hb hby at_113) k) ?_
    show own_End p e below _ (s₁.setTop (mkF m 114 #[.val (.long q1), .second, .val (.long q2), .second, .val (.long q3), .second, .val (.long q4), .second, .val (.int p5), .val (.int ga), .val (.int gt), .val (.int gm), .val (.int gs), .val (.int ra), .val (.int rt), .val (.int rm), .val (.int rs), .val (.int f1), .val (.int f2), .val (.int f3), .val (.int f4), .unset, .unset, .unset, .unset, .unset, .unset, .unset, .unset] [(.int (1 : Int32))]))
    refine own_by (fun _ k => XS.goto X0.here hx rfl (pc0 := 114) (pc' := 118) rfl (hb hby at_114) (by decide) (by decide) k) ?_
    show own_End p e below _ (s₁.setTop (mkF m 118 #[.val (.long q1), .second, .val (.long q2), .second, .val (.long q3), .second, .val (.long q4), .second, .val (.int p5), .val (.int ga), .val (.int gt), .val (.int gm), .val (.int gs), .val (.int ra), .val (.int rt), .val (.int rm), .val (.int rs), .val (.int f1), .val (.int f2), .val (.int f3), .val (.int f4), .unset, .unset, .unset, .unset, .unset, .unset, .unset, .unset] [(.int (1 : Int32))]))
    refine own_by (fun _ k => XS.istore X0.here hx rfl (hb hby at_118) rfl (l' := #[.val (.long q1), .second, .val (.long q2), .second, .val (.long q3), .second, .val (.long q4), .second, .val (.int p5), .val (.int ga), .val (.int gt), .val (.int gm), .val (.int gs), .val (.int ra), .val (.int rt), .val (.int rm), .val (.int rs), .val (.int f1), .val (.int f2), .val (.int f3), .val (.int f4), .val (.int (1 : Int32)), .unset, .unset, .unset, .unset, .unset, .unset, .unset]) rfl k) ?_
    show own_End p e below _ (s₁.setTop (mkF m 120 #[.val (.long q1), .second, .val (.long q2), .second, .val (.long q3), .second, .val (.long q4), .second, .val (.int p5), .val (.int ga), .val (.int gt), .val (.int gm), .val (.int gs), .val (.int ra), .val (.int rt), .val (.int rm), .val (.int rs), .val (.int f1), .val (.int f2), .val (.int f3), .val (.int f4), .val (.int (1 : Int32)), .unset, .unset, .unset, .unset, .unset, .unset, .unset] []))
    refine own_by (fun _ k => XS.iload X0.here hx rfl (hb hby at_120) rfl k) ?_
    show own_End p e below _ (s₁.setTop (mkF m 122 #[.val (.long q1), .second, .val (.long q2), .second, .val (.long q3), .second, .val (.long q4), .second, .val (.int p5), .val (.int ga), .val (.int gt), .val (.int gm), .val (.int gs), .val (.int ra), .val (.int rt), .val (.int rm), .val (.int rs), .val (.int f1), .val (.int f2), .val (.int f3), .val (.int f4), .val (.int (1 : Int32)), .unset, .unset, .unset, .unset, .unset, .unset, .unset] [(.int (1 : Int32))]))
    refine own_by (fun _ k => XS.ifNo X0.here hx rfl (hb hby at_122) rfl ((if0 _ _).trans (feq (by decide)).1) k) ?_
    show own_End p e below _ (s₁.setTop (mkF m 125 #[.val (.long q1), .second, .val (.long q2), .second, .val (.long q3), .second, .val (.long q4), .second, .val (.int p5), .val (.int ga), .val (.int gt), .val (.int gm), .val (.int gs), .val (.int ra), .val (.int rt), .val (.int rm), .val (.int rs), .val (.int f1), .val (.int f2), .val (.int f3), .val (.int f4), .val (.int (1 : Int32)), .unset, .unset, .unset, .unset, .unset, .unset, .unset] []))
    refine own_by (fun _ k => XS.aconstNull X0.here hx rfl (hb hby at_125) k) ?_
    show own_End p e below _ (s₁.setTop (mkF m 126 #[.val (.long q1), .second, .val (.long q2), .second, .val (.long q3), .second, .val (.long q4), .second, .val (.int p5), .val (.int ga), .val (.int gt), .val (.int gm), .val (.int gs), .val (.int ra), .val (.int rt), .val (.int rm), .val (.int rs), .val (.int f1), .val (.int f2), .val (.int f3), .val (.int f4), .val (.int (1 : Int32)), .unset, .unset, .unset, .unset, .unset, .unset, .unset] [.null]))
    refine own_by (fun _ k => XS.goto X0.here hx rfl (pc0 := 126) (pc' := 144) rfl (hb hby at_126) (by decide) (by decide) k) ?_
    show own_End p e below _ (s₁.setTop (mkF m 144 #[.val (.long q1), .second, .val (.long q2), .second, .val (.long q3), .second, .val (.long q4), .second, .val (.int p5), .val (.int ga), .val (.int gt), .val (.int gm), .val (.int gs), .val (.int ra), .val (.int rt), .val (.int rm), .val (.int rs), .val (.int f1), .val (.int f2), .val (.int f3), .val (.int f4), .val (.int (1 : Int32)), .unset, .unset, .unset, .unset, .unset, .unset, .unset] [.null]))
    refine own_by (fun _ k => XS.astore X0.here hx rfl (hb hby at_144) rfl rfl (l' := #[.val (.long q1), .second, .val (.long q2), .second, .val (.long q3), .second, .val (.long q4), .second, .val (.int p5), .val (.int ga), .val (.int gt), .val (.int gm), .val (.int gs), .val (.int ra), .val (.int rt), .val (.int rm), .val (.int rs), .val (.int f1), .val (.int f2), .val (.int f3), .val (.int f4), .val (.int (1 : Int32)), .val .null, .unset, .unset, .unset, .unset, .unset, .unset]) rfl k) ?_
    show own_End p e below _ (s₁.setTop (mkF m 146 #[.val (.long q1), .second, .val (.long q2), .second, .val (.long q3), .second, .val (.long q4), .second, .val (.int p5), .val (.int ga), .val (.int gt), .val (.int gm), .val (.int gs), .val (.int ra), .val (.int rt), .val (.int rm), .val (.int rs), .val (.int f1), .val (.int f2), .val (.int f3), .val (.int f4), .val (.int (1 : Int32)), .val .null, .unset, .unset, .unset, .unset, .unset, .unset] []))
    refine own_by (fun _ k => XS.iload X0.here hx rfl (hb hby at_146) rfl k) ?_
    show own_End p e below _ (s₁.setTop (mkF m 148 #[.val (.long q1), .second, .val (.long q2), .second, .val (.long q3), .second, .val (.long q4), .second, .val (.int p5), .val (.int ga), .val (.int gt), .val (.int gm), .val (.int gs), .val (.int ra), .val (.int rt), .val (.int rm), .val (.int rs), .val (.int f1), .val (.int f2), .val (.int f3), .val (.int f4), .val (.int (1 : Int32)), .val .null, .unset, .unset, .unset, .unset, .unset, .unset] [(.int f1)]))
    refine own_join (fun END => ∀ (Tj115 : State) (lj115 : List Loc) (hj115 : Heap) (v1 : Value), Stand p l e room_1 s m #[(.long q1), (.long q2), (.long q3), (.long q4), (.int p5)] below meth c Tj115 lj115 1 1 → Tj115.heap = hj115 → Ext h0 hj115 → Fr n0 lj115 → own_IV Z hj115 f1 ga v1 → END (Tj115.setTop (mkF m 162 #[.val (.long q1), .second, .val (.long q2), .second, .val (.long q3), .second, .val (.long q4), .second, .val (.int p5), .val (.int ga), .val (.int gt), .val (.int gm), .val (.int gs), .val (.int ra), .val (.int rt), .val (.int rm), .val (.int rs), .val (.int f1), .val (.int f2), .val (.int f3), .val (.int f4), .val (.int (1 : Int32)), .val .null, .val v1, .unset, .unset, .unset, .unset, .unset] []))) (fun J115 => ?_) ?_
    · -- the two ways
      show own_End p e below _ (s₁.setTop (mkF m 148 #[.val (.long q1), .second, .val (.long q2), .second, .val (.long q3), .second, .val (.long q4), .second, .val (.int p5), .val (.int ga), .val (.int gt), .val (.int gm), .val (.int gs), .val (.int ra), .val (.int rt), .val (.int rm), .val (.int rs), .val (.int f1), .val (.int f2), .val (.int f3), .val (.int f4), .val (.int (1 : Int32)), .val .null, .unset, .unset, .unset, .unset, .unset, .unset] [(.int f1)]))
      rcases Decidable.em (f1 = (0 : Int32)) with hc148_116 | hc148_116
      · -- 148 True
        refine own_by (fun _ k => XS.ifYes X0.here hx rfl (pc0 := 148) (pc' := 155) rfl (hb hby at_148) rfl ((if0 _ _).trans (teq hc148_116).1) (by decide) (by decide) k) ?_
        show own_End p e below _ (s₁.setTop (mkF m 155 #[.val (.long q1), .second, .val (.long q2), .second, .val (.long q3), .second, .val (.long q4), .second, .val (.int p5), .val (.int ga), .val (.int gt), .val (.int gm), .val (.int gs), .val (.int ra), .val (.int rt), .val (.int rm), .val (.int rs), .val (.int f1), .val (.int f2), .val (.int f3), .val (.int f4), .val (.int (1 : Int32)), .val .null, .unset, .unset, .unset, .unset, .unset, .unset] []))
        refine own_by (fun _ k => XS.iload X0.here hx rfl (hb hby at_155) rfl k) ?_
        show own_End p e below _ (s₁.setTop (mkF m 157 #[.val (.long q1), .second, .val (.long q2), .second, .val (.long q3), .second, .val (.long q4), .second, .val (.int p5), .val (.int ga), .val (.int gt), .val (.int gm), .val (.int gs), .val (.int ra), .val (.int rt), .val (.int rm), .val (.int rs), .val (.int f1), .val (.int f2), .val (.int f3), .val (.int f4), .val (.int (1 : Int32)), .val .null, .unset, .unset, .unset, .unset, .unset, .unset] [(.int ga)]))
        obtain ⟨_, _, ⟨T117, L117, k117, n117⟩, -, X117, ⟨Lc117, hQ117, l117, y117, z117⟩, st117⟩ := Jvm.LawKit.callS X0 hx (y := (⟨"java/lang/Integer", "valueOf", "(I)Ljava/lang/Integer;"⟩ : MethodName)) hown (mvT hZ (hw _ (List.mem_of_getElem? (i := 22) rfl))) (mvT hZ (hw _ (List.mem_of_getElem? (i := 23) rfl))) (mvT hZ (hw _ (List.mem_of_getElem? (i := 24) rfl))) (mvT hZ (hw _ (List.mem_of_getElem? (i := 25) rfl))) (by decide) (own_back (W := 0) (own_vof l Z a0 hw [] ga h0 n0 Z0 O hC) hZ (hw _ (List.mem_of_getElem? (i := 25) rfl)) (hw _ (List.mem_of_getElem? (i := 24) rfl)) (by decide) (by decide)) (g := (mkF m 157 #[.val (.long q1), .second, .val (.long q2), .second, .val (.long q3), .second, .val (.long q4), .second, .val (.int p5), .val (.int ga), .val (.int gt), .val (.int gm), .val (.int gs), .val (.int ra), .val (.int rt), .val (.int rm), .val (.int rs), .val (.int f1), .val (.int f2), .val (.int f3), .val (.int f4), .val (.int (1 : Int32)), .val .null, .unset, .unset, .unset, .unset, .unset, .unset] [(.int ga)])) rfl (by rw [hml]; rfl) (argsL := [(.int ga)]) (rest := []) (lenOf own_pd4 rfl) rfl (by show 2 * 0 + _ ≤ _; exact Nat.le_of_eq rfl) (hb hby at_157) (fun _ _ => ⟨rfl, e0, (by decide : 0 + 1 ≤ _), (by decide : 0 + 1 ≤ _)⟩)
        dsimp only [Pt.U, Pt.locs, Pt.cells, Pt.slots] at X117 l117 y117 z117 st117 hQ117
        subst l117 y117 z117
        obtain ⟨d1, rfl, N117q, Ob117, Ee117, Ff117⟩ := hQ117
        have N117 := Fr.app N0 N117q
        refine own_by st117 ?_
        have O117 := own_ext O Ob117
        show own_End p e below _ (T117.setTop (mkF m 160 #[.val (.long q1), .second, .val (.long q2), .second, .val (.long q3), .second, .val (.long q4), .second, .val (.int p5), .val (.int ga), .val (.int gt), .val (.int gm), .val (.int gs), .val (.int ra), .val (.int rt), .val (.int rm), .val (.int rs), .val (.int f1), .val (.int f2), .val (.int f3), .val (.int f4), .val (.int (1 : Int32)), .val .null, .unset, .unset, .unset, .unset, .unset, .unset] [(.ref d1)]))
        refine own_by (fun _ k => XS.astore X117.here hx rfl (hb hby at_160) rfl rfl (l' := #[.val (.long q1), .second, .val (.long q2), .second, .val (.long q3), .second, .val (.long q4), .second, .val (.int p5), .val (.int ga), .val (.int gt), .val (.int gm), .val (.int gs), .val (.int ra), .val (.int rt), .val (.int rm), .val (.int rs), .val (.int f1), .val (.int f2), .val (.int f3), .val (.int f4), .val (.int (1 : Int32)), .val .null, .val (.ref d1), .unset, .unset, .unset, .unset, .unset]) rfl k) ?_
        show own_End p e below _ (T117.setTop (mkF m 162 #[.val (.long q1), .second, .val (.long q2), .second, .val (.long q3), .second, .val (.long q4), .second, .val (.int p5), .val (.int ga), .val (.int gt), .val (.int gm), .val (.int gs), .val (.int ra), .val (.int rt), .val (.int rm), .val (.int rs), .val (.int f1), .val (.int f2), .val (.int f3), .val (.int f4), .val (.int (1 : Int32)), .val .null, .val (.ref d1), .unset, .unset, .unset, .unset, .unset] []))
        exact J115 _ _ _ _ (X117.more (by decide) (by decide)) rfl Ob117 N117 (Or.inl ⟨hc148_116, _, rfl, Ee117, Ff117⟩)
      · -- 148 False
        refine own_by (fun _ k => XS.ifNo X0.here hx rfl (hb hby at_148) rfl ((if0 _ _).trans (feq hc148_116).1) k) ?_
        show own_End p e below _ (s₁.setTop (mkF m 151 #[.val (.long q1), .second, .val (.long q2), .second, .val (.long q3), .second, .val (.long q4), .second, .val (.int p5), .val (.int ga), .val (.int gt), .val (.int gm), .val (.int gs), .val (.int ra), .val (.int rt), .val (.int rm), .val (.int rs), .val (.int f1), .val (.int f2), .val (.int f3), .val (.int f4), .val (.int (1 : Int32)), .val .null, .unset, .unset, .unset, .unset, .unset, .unset] []))
        refine own_by (fun _ k => XS.aconstNull X0.here hx rfl (hb hby at_151) k) ?_
        show own_End p e below _ (s₁.setTop (mkF m 152 #[.val (.long q1), .second, .val (.long q2), .second, .val (.long q3), .second, .val (.long q4), .second, .val (.int p5), .val (.int ga), .val (.int gt), .val (.int gm), .val (.int gs), .val (.int ra), .val (.int rt), .val (.int rm), .val (.int rs), .val (.int f1), .val (.int f2), .val (.int f3), .val (.int f4), .val (.int (1 : Int32)), .val .null, .unset, .unset, .unset, .unset, .unset, .unset] [.null]))
        refine own_by (fun _ k => XS.goto X0.here hx rfl (pc0 := 152) (pc' := 160) rfl (hb hby at_152) (by decide) (by decide) k) ?_
        show own_End p e below _ (s₁.setTop (mkF m 160 #[.val (.long q1), .second, .val (.long q2), .second, .val (.long q3), .second, .val (.long q4), .second, .val (.int p5), .val (.int ga), .val (.int gt), .val (.int gm), .val (.int gs), .val (.int ra), .val (.int rt), .val (.int rm), .val (.int rs), .val (.int f1), .val (.int f2), .val (.int f3), .val (.int f4), .val (.int (1 : Int32)), .val .null, .unset, .unset, .unset, .unset, .unset, .unset] [.null]))
        refine own_by (fun _ k => XS.astore X0.here hx rfl (hb hby at_160) rfl rfl (l' := #[.val (.long q1), .second, .val (.long q2), .second, .val (.long q3), .second, .val (.long q4), .second, .val (.int p5), .val (.int ga), .val (.int gt), .val (.int gm), .val (.int gs), .val (.int ra), .val (.int rt), .val (.int rm), .val (.int rs), .val (.int f1), .val (.int f2), .val (.int f3), .val (.int f4), .val (.int (1 : Int32)), .val .null, .val .null, .unset, .unset, .unset, .unset, .unset]) rfl k) ?_
        show own_End p e below _ (s₁.setTop (mkF m 162 #[.val (.long q1), .second, .val (.long q2), .second, .val (.long q3), .second, .val (.long q4), .second, .val (.int p5), .val (.int ga), .val (.int gt), .val (.int gm), .val (.int gs), .val (.int ra), .val (.int rt), .val (.int rm), .val (.int rs), .val (.int f1), .val (.int f2), .val (.int f3), .val (.int f4), .val (.int (1 : Int32)), .val .null, .val .null, .unset, .unset, .unset, .unset, .unset] []))
        exact J115 _ _ _ _ (X0.more (by decide) (by decide)) e0 ⟨Nat.le_refl _, fun _ _ q => q⟩ N0 (Or.inr ⟨hc148_116, rfl⟩)
    intro Tj115 lj115 hj115 v1 Xj115 ej115 Ej115 Nj115 ivj115
    have O115 := own_ext O Ej115
    show own_End p e below _ (Tj115.setTop (mkF m 162 #[.val (.long q1), .second, .val (.long q2), .second, .val (.long q3), .second, .val (.long q4), .second, .val (.int p5), .val (.int ga), .val (.int gt), .val (.int gm), .val (.int gs), .val (.int ra), .val (.int rt), .val (.int rm), .val (.int rs), .val (.int f1), .val (.int f2), .val (.int f3), .val (.int f4), .val (.int (1 : Int32)), .val .null, .val v1, .unset, .unset, .unset, .unset, .unset] []))
    refine own_by (fun _ k => XS.iload Xj115.here hx rfl (hb hby at_162) rfl k) ?_
    show own_End p e below _ (Tj115.setTop (mkF m 164 #[.val (.long q1), .second, .val (.long q2), .second, .val (.long q3), .second, .val (.long q4), .second, .val (.int p5), .val (.int ga), .val (.int gt), .val (.int gm), .val (.int gs), .val (.int ra), .val (.int rt), .val (.int rm), .val (.int rs), .val (.int f1), .val (.int f2), .val (.int f3), .val (.int f4), .val (.int (1 : Int32)), .val .null, .val v1, .unset, .unset, .unset, .unset, .unset] [(.int f2)]))
    refine own_join (fun END => ∀ (Tj118 : State) (lj118 : List Loc) (hj118 : Heap) (v2 : Value), Stand p l e room_1 s m #[(.long q1), (.long q2), (.long q3), (.long q4), (.int p5)] below meth c Tj118 lj118 2 2 → Tj118.heap = hj118 → Ext hj115 hj118 → Fr n0 lj118 → own_IV Z hj118 f2 gt v2 → END (Tj118.setTop (mkF m 178 #[.val (.long q1), .second, .val (.long q2), .second, .val (.long q3), .second, .val (.long q4), .second, .val (.int p5), .val (.int ga), .val (.int gt), .val (.int gm), .val (.int gs), .val (.int ra), .val (.int rt), .val (.int rm), .val (.int rs), .val (.int f1), .val (.int f2), .val (.int f3), .val (.int f4), .val (.int (1 : Int32)), .val .null, .val v1, .val v2, .unset, .unset, .unset, .unset] []))) (fun J118 => ?_) ?_
    · -- the two ways
      show own_End p e below _ (Tj115.setTop (mkF m 164 #[.val (.long q1), .second, .val (.long q2), .second, .val (.long q3), .second, .val (.long q4), .second, .val (.int p5), .val (.int ga), .val (.int gt), .val (.int gm), .val (.int gs), .val (.int ra), .val (.int rt), .val (.int rm), .val (.int rs), .val (.int f1), .val (.int f2), .val (.int f3), .val (.int f4), .val (.int (1 : Int32)), .val .null, .val v1, .unset, .unset, .unset, .unset, .unset] [(.int f2)]))
      rcases Decidable.em (f2 = (0 : Int32)) with hc164_119 | hc164_119
      · -- 164 True
        refine own_by (fun _ k => XS.ifYes Xj115.here hx rfl (pc0 := 164) (pc' := 171) rfl (hb hby at_164) rfl ((if0 _ _).trans (teq hc164_119).1) (by decide) (by decide) k) ?_
        show own_End p e below _ (Tj115.setTop (mkF m 171 #[.val (.long q1), .second, .val (.long q2), .second, .val (.long q3), .second, .val (.long q4), .second, .val (.int p5), .val (.int ga), .val (.int gt), .val (.int gm), .val (.int gs), .val (.int ra), .val (.int rt), .val (.int rm), .val (.int rs), .val (.int f1), .val (.int f2), .val (.int f3), .val (.int f4), .val (.int (1 : Int32)), .val .null, .val v1, .unset, .unset, .unset, .unset, .unset] []))
        refine own_by (fun _ k => XS.iload Xj115.here hx rfl (hb hby at_171) rfl k) ?_
        show own_End p e below _ (Tj115.setTop (mkF m 173 #[.val (.long q1), .second, .val (.long q2), .second, .val (.long q3), .second, .val (.long q4), .second, .val (.int p5), .val (.int ga), .val (.int gt), .val (.int gm), .val (.int gs), .val (.int ra), .val (.int rt), .val (.int rm), .val (.int rs), .val (.int f1), .val (.int f2), .val (.int f3), .val (.int f4), .val (.int (1 : Int32)), .val .null, .val v1, .unset, .unset, .unset, .unset, .unset] [(.int gt)]))
        obtain ⟨_, _, ⟨T120, L120, k120, n120⟩, -, X120, ⟨Lc120, hQ120, l120, y120, z120⟩, st120⟩ := Jvm.LawKit.callS Xj115 hx (y := (⟨"java/lang/Integer", "valueOf", "(I)Ljava/lang/Integer;"⟩ : MethodName)) hown (mvT hZ (hw _ (List.mem_of_getElem? (i := 22) rfl))) (mvT hZ (hw _ (List.mem_of_getElem? (i := 23) rfl))) (mvT hZ (hw _ (List.mem_of_getElem? (i := 24) rfl))) (mvT hZ (hw _ (List.mem_of_getElem? (i := 25) rfl))) (by decide) (own_back (W := 0) (own_vof l Z a0 hw [] gt hj115 n0 Z0 O115 hC) hZ (hw _ (List.mem_of_getElem? (i := 25) rfl)) (hw _ (List.mem_of_getElem? (i := 24) rfl)) (by decide) (by decide)) (g := (mkF m 173 #[.val (.long q1), .second, .val (.long q2), .second, .val (.long q3), .second, .val (.long q4), .second, .val (.int p5), .val (.int ga), .val (.int gt), .val (.int gm), .val (.int gs), .val (.int ra), .val (.int rt), .val (.int rm), .val (.int rs), .val (.int f1), .val (.int f2), .val (.int f3), .val (.int f4), .val (.int (1 : Int32)), .val .null, .val v1, .unset, .unset, .unset, .unset, .unset] [(.int gt)])) rfl (by rw [hml]; rfl) (argsL := [(.int gt)]) (rest := []) (lenOf own_pd4 rfl) rfl (by show 2 * 0 + _ ≤ _; exact Nat.le_of_eq rfl) (hb hby at_173) (fun _ _ => ⟨rfl, ej115, (by decide : 1 + 1 ≤ _), (by decide : 1 + 1 ≤ _)⟩)
        dsimp only [Pt.U, Pt.locs, Pt.cells, Pt.slots] at X120 l120 y120 z120 st120 hQ120
        subst l120 y120 z120
        obtain ⟨d2, rfl, N120q, Ob120, Ee120, Ff120⟩ := hQ120
        have N120 := Fr.app Nj115 N120q
        refine own_by st120 ?_
        have O120 := own_ext O115 Ob120
        have iv1_120 := ivj115.ext Ob120
        show own_End p e below _ (T120.setTop (mkF m 176 #[.val (.long q1), .second, .val (.long q2), .second, .val (.long q3), .second, .val (.long q4), .second, .val (.int p5), .val (.int ga), .val (.int gt), .val (.int gm), .val (.int gs), .val (.int ra), .val (.int rt), .val (.int rm), .val (.int rs), .val (.int f1), .val (.int f2), .val (.int f3), .val (.int f4), .val (.int (1 : Int32)), .val .null, .val v1, .unset, .unset, .unset, .unset, .unset] [(.ref d2)]))
        refine own_by (fun _ k => XS.astore X120.here hx rfl (hb hby at_176) rfl rfl (l' := #[.val (.long q1), .second, .val (.long q2), .second, .val (.long q3), .second, .val (.long q4), .second, .val (.int p5), .val (.int ga), .val (.int gt), .val (.int gm), .val (.int gs), .val (.int ra), .val (.int rt), .val (.int rm), .val (.int rs), .val (.int f1), .val (.int f2), .val (.int f3), .val (.int f4), .val (.int (1 : Int32)), .val .null, .val v1, .val (.ref d2), .unset, .unset, .unset, .unset]) rfl k) ?_
        show own_End p e below _ (T120.setTop (mkF m 178 #[.val (.long q1), .second, .val (.long q2), .second, .val (.long q3), .second, .val (.long q4), .second, .val (.int p5), .val (.int ga), .val (.int gt), .val (.int gm), .val (.int gs), .val (.int ra), .val (.int rt), .val (.int rm), .val (.int rs), .val (.int f1), .val (.int f2), .val (.int f3), .val (.int f4), .val (.int (1 : Int32)), .val .null, .val v1, .val (.ref d2), .unset, .unset, .unset, .unset] []))
        exact J118 _ _ _ _ (X120.more (by decide) (by decide)) rfl Ob120 N120 (Or.inl ⟨hc164_119, _, rfl, Ee120, Ff120⟩)
      · -- 164 False
        refine own_by (fun _ k => XS.ifNo Xj115.here hx rfl (hb hby at_164) rfl ((if0 _ _).trans (feq hc164_119).1) k) ?_
        show own_End p e below _ (Tj115.setTop (mkF m 167 #[.val (.long q1), .second, .val (.long q2), .second, .val (.long q3), .second, .val (.long q4), .second, .val (.int p5), .val (.int ga), .val (.int gt), .val (.int gm), .val (.int gs), .val (.int ra), .val (.int rt), .val (.int rm), .val (.int rs), .val (.int f1), .val (.int f2), .val (.int f3), .val (.int f4), .val (.int (1 : Int32)), .val .null, .val v1, .unset, .unset, .unset, .unset, .unset] []))
        refine own_by (fun _ k => XS.aconstNull Xj115.here hx rfl (hb hby at_167) k) ?_
        show own_End p e below _ (Tj115.setTop (mkF m 168 #[.val (.long q1), .second, .val (.long q2), .second, .val (.long q3), .second, .val (.long q4), .second, .val (.int p5), .val (.int ga), .val (.int gt), .val (.int gm), .val (.int gs), .val (.int ra), .val (.int rt), .val (.int rm), .val (.int rs), .val (.int f1), .val (.int f2), .val (.int f3), .val (.int f4), .val (.int (1 : Int32)), .val .null, .val v1, .unset, .unset, .unset, .unset, .unset] [.null]))
        refine own_by (fun _ k => XS.goto Xj115.here hx rfl (pc0 := 168) (pc' := 176) rfl (hb hby at_168) (by decide) (by decide) k) ?_
        show own_End p e below _ (Tj115.setTop (mkF m 176 #[.val (.long q1), .second, .val (.long q2), .second, .val (.long q3), .second, .val (.long q4), .second, .val (.int p5), .val (.int ga), .val (.int gt), .val (.int gm), .val (.int gs), .val (.int ra), .val (.int rt), .val (.int rm), .val (.int rs), .val (.int f1), .val (.int f2), .val (.int f3), .val (.int f4), .val (.int (1 : Int32)), .val .null, .val v1, .unset, .unset, .unset, .unset, .unset] [.null]))
        refine own_by (fun _ k => XS.astore Xj115.here hx rfl (hb hby at_176) rfl rfl (l' := #[.val (.long q1), .second, .val (.long q2), .second, .val (.long q3), .second, .val (.long q4), .second, .val (.int p5), .val (.int ga), .val (.int gt), .val (.int gm), .val (.int gs), .val (.int ra), .val (.int rt), .val (.int rm), .val (.int rs), .val (.int f1), .val (.int f2), .val (.int f3), .val (.int f4), .val (.int (1 : Int32)), .val .null, .val v1, .val .null, .unset, .unset, .unset, .unset]) rfl k) ?_
        show own_End p e below _ (Tj115.setTop (mkF m 178 #[.val (.long q1), .second, .val (.long q2), .second, .val (.long q3), .second, .val (.long q4), .second, .val (.int p5), .val (.int ga), .val (.int gt), .val (.int gm), .val (.int gs), .val (.int ra), .val (.int rt), .val (.int rm), .val (.int rs), .val (.int f1), .val (.int f2), .val (.int f3), .val (.int f4), .val (.int (1 : Int32)), .val .null, .val v1, .val .null, .unset, .unset, .unset, .unset] []))
        exact J118 _ _ _ _ (Xj115.more (by decide) (by decide)) ej115 ⟨Nat.le_refl _, fun _ _ q => q⟩ Nj115 (Or.inr ⟨hc164_119, rfl⟩)
    intro Tj118 lj118 hj118 v2 Xj118 ej118 Ej118 Nj118 ivj118
    have O118 := own_ext O115 Ej118
    have iv1_118 := ivj115.ext Ej118
    show own_End p e below _ (Tj118.setTop (mkF m 178 #[.val (.long q1), .second, .val (.long q2), .second, .val (.long q3), .second, .val (.long q4), .second, .val (.int p5), .val (.int ga), .val (.int gt), .val (.int gm), .val (.int gs), .val (.int ra), .val (.int rt), .val (.int rm), .val (.int rs), .val (.int f1), .val (.int f2), .val (.int f3), .val (.int f4), .val (.int (1 : Int32)), .val .null, .val v1, .val v2, .unset, .unset, .unset, .unset] []))
    refine own_by (fun _ k => XS.iload Xj118.here hx rfl (hb hby at_178) rfl k) ?_
    show own_End p e below _ (Tj118.setTop (mkF m 180 #[.val (.long q1), .second, .val (.long q2), .second, .val (.long q3), .second, .val (.long q4), .second, .val (.int p5), .val (.int ga), .val (.int gt), .val (.int gm), .val (.int gs), .val (.int ra), .val (.int rt), .val (.int rm), .val (.int rs), .val (.int f1), .val (.int f2), .val (.int f3), .val (.int f4), .val (.int (1 : Int32)), .val .null, .val v1, .val v2, .unset, .unset, .unset, .unset] [(.int f3)]))
    refine own_join (fun END => ∀ (Tj121 : State) (lj121 : List Loc) (hj121 : Heap) (v3 : Value), Stand p l e room_1 s m #[(.long q1), (.long q2), (.long q3), (.long q4), (.int p5)] below meth c Tj121 lj121 3 3 → Tj121.heap = hj121 → Ext hj118 hj121 → Fr n0 lj121 → own_IV Z hj121 f3 gm v3 → END (Tj121.setTop (mkF m 194 #[.val (.long q1), .second, .val (.long q2), .second, .val (.long q3), .second, .val (.long q4), .second, .val (.int p5), .val (.int ga), .val (.int gt), .val (.int gm), .val (.int gs), .val (.int ra), .val (.int rt), .val (.int rm), .val (.int rs), .val (.int f1), .val (.int f2), .val (.int f3), .val (.int f4), .val (.int (1 : Int32)), .val .null, .val v1, .val v2, .val v3, .unset, .unset, .unset] []))) (fun J121 => ?_) ?_
    · -- the two ways
      show own_End p e below _ (Tj118.setTop (mkF m 180 #[.val (.long q1), .second, .val (.long q2), .second, .val (.long q3), .second, .val (.long q4), .second, .val (.int p5), .val (.int ga), .val (.int gt), .val (.int gm), .val (.int gs), .val (.int ra), .val (.int rt), .val (.int rm), .val (.int rs), .val (.int f1), .val (.int f2), .val (.int f3), .val (.int f4), .val (.int (1 : Int32)), .val .null, .val v1, .val v2, .unset, .unset, .unset, .unset] [(.int f3)]))
      rcases Decidable.em (f3 = (0 : Int32)) with hc180_122 | hc180_122
      · -- 180 True
        refine own_by (fun _ k => XS.ifYes Xj118.here hx rfl (pc0 := 180) (pc' := 187) rfl (hb hby at_180) rfl ((if0 _ _).trans (teq hc180_122).1) (by decide) (by decide) k) ?_
        show own_End p e below _ (Tj118.setTop (mkF m 187 #[.val (.long q1), .second, .val (.long q2), .second, .val (.long q3), .second, .val (.long q4), .second, .val (.int p5), .val (.int ga), .val (.int gt), .val (.int gm), .val (.int gs), .val (.int ra), .val (.int rt), .val (.int rm), .val (.int rs), .val (.int f1), .val (.int f2), .val (.int f3), .val (.int f4), .val (.int (1 : Int32)), .val .null, .val v1, .val v2, .unset, .unset, .unset, .unset] []))
        refine own_by (fun _ k => XS.iload Xj118.here hx rfl (hb hby at_187) rfl k) ?_
        show own_End p e below _ (Tj118.setTop (mkF m 189 #[.val (.long q1), .second, .val (.long q2), .second, .val (.long q3), .second, .val (.long q4), .second, .val (.int p5), .val (.int ga), .val (.int gt), .val (.int gm), .val (.int gs), .val (.int ra), .val (.int rt), .val (.int rm), .val (.int rs), .val (.int f1), .val (.int f2), .val (.int f3), .val (.int f4), .val (.int (1 : Int32)), .val .null, .val v1, .val v2, .unset, .unset, .unset, .unset] [(.int gm)]))
        obtain ⟨_, _, ⟨T123, L123, k123, n123⟩, -, X123, ⟨Lc123, hQ123, l123, y123, z123⟩, st123⟩ := Jvm.LawKit.callS Xj118 hx (y := (⟨"java/lang/Integer", "valueOf", "(I)Ljava/lang/Integer;"⟩ : MethodName)) hown (mvT hZ (hw _ (List.mem_of_getElem? (i := 22) rfl))) (mvT hZ (hw _ (List.mem_of_getElem? (i := 23) rfl))) (mvT hZ (hw _ (List.mem_of_getElem? (i := 24) rfl))) (mvT hZ (hw _ (List.mem_of_getElem? (i := 25) rfl))) (by decide) (own_back (W := 0) (own_vof l Z a0 hw [] gm hj118 n0 Z0 O118 hC) hZ (hw _ (List.mem_of_getElem? (i := 25) rfl)) (hw _ (List.mem_of_getElem? (i := 24) rfl)) (by decide) (by decide)) (g := (mkF m 189 #[.val (.long q1), .second, .val (.long q2), .second, .val (.long q3), .second, .val (.long q4), .second, .val (.int p5), .val (.int ga), .val (.int gt), .val (.int gm), .val (.int gs), .val (.int ra), .val (.int rt), .val (.int rm), .val (.int rs), .val (.int f1), .val (.int f2), .val (.int f3), .val (.int f4), .val (.int (1 : Int32)), .val .null, .val v1, .val v2, .unset, .unset, .unset, .unset] [(.int gm)])) rfl (by rw [hml]; rfl) (argsL := [(.int gm)]) (rest := []) (lenOf own_pd4 rfl) rfl (by show 2 * 0 + _ ≤ _; exact Nat.le_of_eq rfl) (hb hby at_189) (fun _ _ => ⟨rfl, ej118, (by decide : 2 + 1 ≤ _), (by decide : 2 + 1 ≤ _)⟩)
        dsimp only [Pt.U, Pt.locs, Pt.cells, Pt.slots] at X123 l123 y123 z123 st123 hQ123
        subst l123 y123 z123
        obtain ⟨d3, rfl, N123q, Ob123, Ee123, Ff123⟩ := hQ123
        have N123 := Fr.app Nj118 N123q
        refine own_by st123 ?_
        have O123 := own_ext O118 Ob123
        have iv1_123 := iv1_118.ext Ob123
        have iv2_123 := ivj118.ext Ob123
        show own_End p e below _ (T123.setTop (mkF m 192 #[.val (.long q1), .second, .val (.long q2), .second, .val (.long q3), .second, .val (.long q4), .second, .val (.int p5), .val (.int ga), .val (.int gt), .val (.int gm), .val (.int gs), .val (.int ra), .val (.int rt), .val (.int rm), .val (.int rs), .val (.int f1), .val (.int f2), .val (.int f3), .val (.int f4), .val (.int (1 : Int32)), .val .null, .val v1, .val v2, .unset, .unset, .unset, .unset] [(.ref d3)]))
        refine own_by (fun _ k => XS.astore X123.here hx rfl (hb hby at_192) rfl rfl (l' := #[.val (.long q1), .second, .val (.long q2), .second, .val (.long q3), .second, .val (.long q4), .second, .val (.int p5), .val (.int ga), .val (.int gt), .val (.int gm), .val (.int gs), .val (.int ra), .val (.int rt), .val (.int rm), .val (.int rs), .val (.int f1), .val (.int f2), .val (.int f3), .val (.int f4), .val (.int (1 : Int32)), .val .null, .val v1, .val v2, .val (.ref d3), .unset, .unset, .unset]) rfl k) ?_
        show own_End p e below _ (T123.setTop (mkF m 194 #[.val (.long q1), .second, .val (.long q2), .second, .val (.long q3), .second, .val (.long q4), .second, .val (.int p5), .val (.int ga), .val (.int gt), .val (.int gm), .val (.int gs), .val (.int ra), .val (.int rt), .val (.int rm), .val (.int rs), .val (.int f1), .val (.int f2), .val (.int f3), .val (.int f4), .val (.int (1 : Int32)), .val .null, .val v1, .val v2, .val (.ref d3), .unset, .unset, .unset] []))
        exact J121 _ _ _ _ (X123.more (by decide) (by decide)) rfl Ob123 N123 (Or.inl ⟨hc180_122, _, rfl, Ee123, Ff123⟩)
      · -- 180 False
        refine own_by (fun _ k => XS.ifNo Xj118.here hx rfl (hb hby at_180) rfl ((if0 _ _).trans (feq hc180_122).1) k) ?_
        show own_End p e below _ (Tj118.setTop (mkF m 183 #[.val (.long q1), .second, .val (.long q2), .second, .val (.long q3), .second, .val (.long q4), .second, .val (.int p5), .val (.int ga), .val (.int gt), .val (.int gm), .val (.int gs), .val (.int ra), .val (.int rt), .val (.int rm), .val (.int rs), .val (.int f1), .val (.int f2), .val (.int f3), .val (.int f4), .val (.int (1 : Int32)), .val .null, .val v1, .val v2, .unset, .unset, .unset, .unset] []))
        refine own_by (fun _ k => XS.aconstNull Xj118.here hx rfl (hb hby at_183) k) ?_
        show own_End p e below _ (Tj118.setTop (mkF m 184 #[.val (.long q1), .second, .val (.long q2), .second, .val (.long q3), .second, .val (.long q4), .second, .val (.int p5), .val (.int ga), .val (.int gt), .val (.int gm), .val (.int gs), .val (.int ra), .val (.int rt), .val (.int rm), .val (.int rs), .val (.int f1), .val (.int f2), .val (.int f3), .val (.int f4), .val (.int (1 : Int32)), .val .null, .val v1, .val v2, .unset, .unset, .unset, .unset] [.null]))
        refine own_by (fun _ k => XS.goto Xj118.here hx rfl (pc0 := 184) (pc' := 192) rfl (hb hby at_184) (by decide) (by decide) k) ?_
        show own_End p e below _ (Tj118.setTop (mkF m 192 #[.val (.long q1), .second, .val (.long q2), .second, .val (.long q3), .second, .val (.long q4), .second, .val (.int p5), .val (.int ga), .val (.int gt), .val (.int gm), .val (.int gs), .val (.int ra), .val (.int rt), .val (.int rm), .val (.int rs), .val (.int f1), .val (.int f2), .val (.int f3), .val (.int f4), .val (.int (1 : Int32)), .val .null, .val v1, .val v2, .unset, .unset, .unset, .unset] [.null]))
        refine own_by (fun _ k => XS.astore Xj118.here hx rfl (hb hby at_192) rfl rfl (l' := #[.val (.long q1), .second, .val (.long q2), .second, .val (.long q3), .second, .val (.long q4), .second, .val (.int p5), .val (.int ga), .val (.int gt), .val (.int gm), .val (.int gs), .val (.int ra), .val (.int rt), .val (.int rm), .val (.int rs), .val (.int f1), .val (.int f2), .val (.int f3), .val (.int f4), .val (.int (1 : Int32)), .val .null, .val v1, .val v2, .val .null, .unset, .unset, .unset]) rfl k) ?_
        show own_End p e below _ (Tj118.setTop (mkF m 194 #[.val (.long q1), .second, .val (.long q2), .second, .val (.long q3), .second, .val (.long q4), .second, .val (.int p5), .val (.int ga), .val (.int gt), .val (.int gm), .val (.int gs), .val (.int ra), .val (.int rt), .val (.int rm), .val (.int rs), .val (.int f1), .val (.int f2), .val (.int f3), .val (.int f4), .val (.int (1 : Int32)), .val .null, .val v1, .val v2, .val .null, .unset, .unset, .unset] []))
        exact J121 _ _ _ _ (Xj118.more (by decide) (by decide)) ej118 ⟨Nat.le_refl _, fun _ _ q => q⟩ Nj118 (Or.inr ⟨hc180_122, rfl⟩)
    intro Tj121 lj121 hj121 v3 Xj121 ej121 Ej121 Nj121 ivj121
    have O121 := own_ext O118 Ej121
    have iv1_121 := iv1_118.ext Ej121
    have iv2_121 := ivj118.ext Ej121
    show own_End p e below _ (Tj121.setTop (mkF m 194 #[.val (.long q1), .second, .val (.long q2), .second, .val (.long q3), .second, .val (.long q4), .second, .val (.int p5), .val (.int ga), .val (.int gt), .val (.int gm), .val (.int gs), .val (.int ra), .val (.int rt), .val (.int rm), .val (.int rs), .val (.int f1), .val (.int f2), .val (.int f3), .val (.int f4), .val (.int (1 : Int32)), .val .null, .val v1, .val v2, .val v3, .unset, .unset, .unset] []))
    refine own_by (fun _ k => XS.iload Xj121.here hx rfl (hb hby at_194) rfl k) ?_
    show own_End p e below _ (Tj121.setTop (mkF m 196 #[.val (.long q1), .second, .val (.long q2), .second, .val (.long q3), .second, .val (.long q4), .second, .val (.int p5), .val (.int ga), .val (.int gt), .val (.int gm), .val (.int gs), .val (.int ra), .val (.int rt), .val (.int rm), .val (.int rs), .val (.int f1), .val (.int f2), .val (.int f3), .val (.int f4), .val (.int (1 : Int32)), .val .null, .val v1, .val v2, .val v3, .unset, .unset, .unset] [(.int f4)]))
    refine own_join (fun END => ∀ (Tj124 : State) (lj124 : List Loc) (hj124 : Heap) (v4 : Value), Stand p l e room_1 s m #[(.long q1), (.long q2), (.long q3), (.long q4), (.int p5)] below meth c Tj124 lj124 4 4 → Tj124.heap = hj124 → Ext hj121 hj124 → Fr n0 lj124 → own_IV Z hj124 f4 gs v4 → END (Tj124.setTop (mkF m 210 #[.val (.long q1), .second, .val (.long q2), .second, .val (.long q3), .second, .val (.long q4), .second, .val (.int p5), .val (.int ga), .val (.int gt), .val (.int gm), .val (.int gs), .val (.int ra), .val (.int rt), .val (.int rm), .val (.int rs), .val (.int f1), .val (.int f2), .val (.int f3), .val (.int f4), .val (.int (1 : Int32)), .val .null, .val v1, .val v2, .val v3, .val v4, .unset, .unset] []))) (fun J124 => ?_) ?_
    · -- the two ways
      show own_End p e below _ (Tj121.setTop (mkF m 196 #[.val (.long q1), .second, .val (.long q2), .second, .val (.long q3), .second, .val (.long q4), .second, .val (.int p5), .val (.int ga), .val (.int gt), .val (.int gm), .val (.int gs), .val (.int ra), .val (.int rt), .val (.int rm), .val (.int rs), .val (.int f1), .val (.int f2), .val (.int f3), .val (.int f4), .val (.int (1 : Int32)), .val .null, .val v1, .val v2, .val v3, .unset, .unset, .unset] [(.int f4)]))
      rcases Decidable.em (f4 = (0 : Int32)) with hc196_125 | hc196_125
      · -- 196 True
        refine own_by (fun _ k => XS.ifYes Xj121.here hx rfl (pc0 := 196) (pc' := 203) rfl (hb hby at_196) rfl ((if0 _ _).trans (teq hc196_125).1) (by decide) (by decide) k) ?_
        show own_End p e below _ (Tj121.setTop (mkF m 203 #[.val (.long q1), .second, .val (.long q2), .second, .val (.long q3), .second, .val (.long q4), .second, .val (.int p5), .val (.int ga), .val (.int gt), .val (.int gm), .val (.int gs), .val (.int ra), .val (.int rt), .val (.int rm), .val (.int rs), .val (.int f1), .val (.int f2), .val (.int f3), .val (.int f4), .val (.int (1 : Int32)), .val .null, .val v1, .val v2, .val v3, .unset, .unset, .unset] []))
        refine own_by (fun _ k => XS.iload Xj121.here hx rfl (hb hby at_203) rfl k) ?_
        show own_End p e below _ (Tj121.setTop (mkF m 205 #[.val (.long q1), .second, .val (.long q2), .second, .val (.long q3), .second, .val (.long q4), .second, .val (.int p5), .val (.int ga), .val (.int gt), .val (.int gm), .val (.int gs), .val (.int ra), .val (.int rt), .val (.int rm), .val (.int rs), .val (.int f1), .val (.int f2), .val (.int f3), .val (.int f4), .val (.int (1 : Int32)), .val .null, .val v1, .val v2, .val v3, .unset, .unset, .unset] [(.int gs)]))
        obtain ⟨_, _, ⟨T126, L126, k126, n126⟩, -, X126, ⟨Lc126, hQ126, l126, y126, z126⟩, st126⟩ := Jvm.LawKit.callS Xj121 hx (y := (⟨"java/lang/Integer", "valueOf", "(I)Ljava/lang/Integer;"⟩ : MethodName)) hown (mvT hZ (hw _ (List.mem_of_getElem? (i := 22) rfl))) (mvT hZ (hw _ (List.mem_of_getElem? (i := 23) rfl))) (mvT hZ (hw _ (List.mem_of_getElem? (i := 24) rfl))) (mvT hZ (hw _ (List.mem_of_getElem? (i := 25) rfl))) (by decide) (own_back (W := 0) (own_vof l Z a0 hw [] gs hj121 n0 Z0 O121 hC) hZ (hw _ (List.mem_of_getElem? (i := 25) rfl)) (hw _ (List.mem_of_getElem? (i := 24) rfl)) (by decide) (by decide)) (g := (mkF m 205 #[.val (.long q1), .second, .val (.long q2), .second, .val (.long q3), .second, .val (.long q4), .second, .val (.int p5), .val (.int ga), .val (.int gt), .val (.int gm), .val (.int gs), .val (.int ra), .val (.int rt), .val (.int rm), .val (.int rs), .val (.int f1), .val (.int f2), .val (.int f3), .val (.int f4), .val (.int (1 : Int32)), .val .null, .val v1, .val v2, .val v3, .unset, .unset, .unset] [(.int gs)])) rfl (by rw [hml]; rfl) (argsL := [(.int gs)]) (rest := []) (lenOf own_pd4 rfl) rfl (by show 2 * 0 + _ ≤ _; exact Nat.le_of_eq rfl) (hb hby at_205) (fun _ _ => ⟨rfl, ej121, (by decide : 3 + 1 ≤ _), (by decide : 3 + 1 ≤ _)⟩)
        dsimp only [Pt.U, Pt.locs, Pt.cells, Pt.slots] at X126 l126 y126 z126 st126 hQ126
        subst l126 y126 z126
        obtain ⟨d4, rfl, N126q, Ob126, Ee126, Ff126⟩ := hQ126
        have N126 := Fr.app Nj121 N126q
        refine own_by st126 ?_
        have O126 := own_ext O121 Ob126
        have iv1_126 := iv1_121.ext Ob126
        have iv2_126 := iv2_121.ext Ob126
        have iv3_126 := ivj121.ext Ob126
        show own_End p e below _ (T126.setTop (mkF m 208 #[.val (.long q1), .second, .val (.long q2), .second, .val (.long q3), .second, .val (.long q4), .second, .val (.int p5), .val (.int ga), .val (.int gt), .val (.int gm), .val (.int gs), .val (.int ra), .val (.int rt), .val (.int rm), .val (.int rs), .val (.int f1), .val (.int f2), .val (.int f3), .val (.int f4), .val (.int (1 : Int32)), .val .null, .val v1, .val v2, .val v3, .unset, .unset, .unset] [(.ref d4)]))
        refine own_by (fun _ k => XS.astore X126.here hx rfl (hb hby at_208) rfl rfl (l' := #[.val (.long q1), .second, .val (.long q2), .second, .val (.long q3), .second, .val (.long q4), .second, .val (.int p5), .val (.int ga), .val (.int gt), .val (.int gm), .val (.int gs), .val (.int ra), .val (.int rt), .val (.int rm), .val (.int rs), .val (.int f1), .val (.int f2), .val (.int f3), .val (.int f4), .val (.int (1 : Int32)), .val .null, .val v1, .val v2, .val v3, .val (.ref d4), .unset, .unset]) rfl k) ?_
        show own_End p e below _ (T126.setTop (mkF m 210 #[.val (.long q1), .second, .val (.long q2), .second, .val (.long q3), .second, .val (.long q4), .second, .val (.int p5), .val (.int ga), .val (.int gt), .val (.int gm), .val (.int gs), .val (.int ra), .val (.int rt), .val (.int rm), .val (.int rs), .val (.int f1), .val (.int f2), .val (.int f3), .val (.int f4), .val (.int (1 : Int32)), .val .null, .val v1, .val v2, .val v3, .val (.ref d4), .unset, .unset] []))
        exact J124 _ _ _ _ (X126.more (by decide) (by decide)) rfl Ob126 N126 (Or.inl ⟨hc196_125, _, rfl, Ee126, Ff126⟩)
      · -- 196 False
        refine own_by (fun _ k => XS.ifNo Xj121.here hx rfl (hb hby at_196) rfl ((if0 _ _).trans (feq hc196_125).1) k) ?_
        show own_End p e below _ (Tj121.setTop (mkF m 199 #[.val (.long q1), .second, .val (.long q2), .second, .val (.long q3), .second, .val (.long q4), .second, .val (.int p5), .val (.int ga), .val (.int gt), .val (.int gm), .val (.int gs), .val (.int ra), .val (.int rt), .val (.int rm), .val (.int rs), .val (.int f1), .val (.int f2), .val (.int f3), .val (.int f4), .val (.int (1 : Int32)), .val .null, .val v1, .val v2, .val v3, .unset, .unset, .unset] []))
        refine own_by (fun _ k => XS.aconstNull Xj121.here hx rfl (hb hby at_199) k) ?_
        show own_End p e below _ (Tj121.setTop (mkF m 200 #[.val (.long q1), .second, .val (.long q2), .second, .val (.long q3), .second, .val (.long q4), .second, .val (.int p5), .val (.int ga), .val (.int gt), .val (.int gm), .val (.int gs), .val (.int ra), .val (.int rt), .val (.int rm), .val (.int rs), .val (.int f1), .val (.int f2), .val (.int f3), .val (.int f4), .val (.int (1 : Int32)), .val .null, .val v1, .val v2, .val v3, .unset, .unset, .unset] [.null]))
        refine own_by (fun _ k => XS.goto Xj121.here hx rfl (pc0 := 200) (pc' := 208) rfl (hb hby at_200) (by decide) (by decide) k) ?_
        show own_End p e below _ (Tj121.setTop (mkF m 208 #[.val (.long q1), .second, .val (.long q2), .second, .val (.long q3), .second, .val (.long q4), .second, .val (.int p5), .val (.int ga), .val (.int gt), .val (.int gm), .val (.int gs), .val (.int ra), .val (.int rt), .val (.int rm), .val (.int rs), .val (.int f1), .val (.int f2), .val (.int f3), .val (.int f4), .val (.int (1 : Int32)), .val .null, .val v1, .val v2, .val v3, .unset, .unset, .unset] [.null]))
        refine own_by (fun _ k => XS.astore Xj121.here hx rfl (hb hby at_208) rfl rfl (l' := #[.val (.long q1), .second, .val (.long q2), .second, .val (.long q3), .second, .val (.long q4), .second, .val (.int p5), .val (.int ga), .val (.int gt), .val (.int gm), .val (.int gs), .val (.int ra), .val (.int rt), .val (.int rm), .val (.int rs), .val (.int f1), .val (.int f2), .val (.int f3), .val (.int f4), .val (.int (1 : Int32)), .val .null, .val v1, .val v2, .val v3, .val .null, .unset, .unset]) rfl k) ?_
        show own_End p e below _ (Tj121.setTop (mkF m 210 #[.val (.long q1), .second, .val (.long q2), .second, .val (.long q3), .second, .val (.long q4), .second, .val (.int p5), .val (.int ga), .val (.int gt), .val (.int gm), .val (.int gs), .val (.int ra), .val (.int rt), .val (.int rm), .val (.int rs), .val (.int f1), .val (.int f2), .val (.int f3), .val (.int f4), .val (.int (1 : Int32)), .val .null, .val v1, .val v2, .val v3, .val .null, .unset, .unset] []))
        exact J124 _ _ _ _ (Xj121.more (by decide) (by decide)) ej121 ⟨Nat.le_refl _, fun _ _ q => q⟩ Nj121 (Or.inr ⟨hc196_125, rfl⟩)
    intro Tj124 lj124 hj124 v4 Xj124 ej124 Ej124 Nj124 ivj124
    have O124 := own_ext O121 Ej124
    have iv1_124 := iv1_121.ext Ej124
    have iv2_124 := iv2_121.ext Ej124
    have iv3_124 := ivj121.ext Ej124
    show own_End p e below _ (Tj124.setTop (mkF m 210 #[.val (.long q1), .second, .val (.long q2), .second, .val (.long q3), .second, .val (.long q4), .second, .val (.int p5), .val (.int ga), .val (.int gt), .val (.int gm), .val (.int gs), .val (.int ra), .val (.int rt), .val (.int rm), .val (.int rs), .val (.int f1), .val (.int f2), .val (.int f3), .val (.int f4), .val (.int (1 : Int32)), .val .null, .val v1, .val v2, .val v3, .val v4, .unset, .unset] []))
    obtain ⟨T127, h127, X127, e127, E127, A127, D127, -, st127⟩ := newO Xj124 hx hZ hown (hw _ (List.mem_of_getElem? (i := 29) rfl)) (hw _ (List.mem_of_getElem? (i := 30) rfl)) (hw _ (List.mem_of_getElem? (i := 31) rfl)) ej124 (g := (mkF m 210 #[.val (.long q1), .second, .val (.long q2), .second, .val (.long q3), .second, .val (.long q4), .second, .val (.int p5), .val (.int ga), .val (.int gt), .val (.int gm), .val (.int gs), .val (.int ra), .val (.int rt), .val (.int rm), .val (.int rs), .val (.int f1), .val (.int f2), .val (.int f3), .val (.int f4), .val (.int (1 : Int32)), .val .null, .val v1, .val v2, .val v3, .val v4, .unset, .unset] [])) rfl (hb hby at_210) (by decide) (by decide)
    obtain ⟨b127, g127⟩ : ∃ z, z = hj124.size := ⟨_, rfl⟩
    rw [← g127] at A127 D127 st127
    have g_b127 : Z.heap.size ≤ b127 := Nat.le_trans O124.1 (Nat.le_of_eq g127.symm)
    have F127_admitPerTick : Fld Z h127 b127 "com/example/hongdae/hongdae/sale/WaitingRoom$Change" "admitPerTick" "Ljava/lang/Integer;" .null := D127 (Or.inr (hw _ (List.mem_of_getElem? (i := 37) rfl))) (ty := (.object "java/lang/Integer")) (by decide)
    have F127_tickSeconds : Fld Z h127 b127 "com/example/hongdae/hongdae/sale/WaitingRoom$Change" "tickSeconds" "Ljava/lang/Integer;" .null := D127 (Or.inr (hw _ (List.mem_of_getElem? (i := 39) rfl))) (ty := (.object "java/lang/Integer")) (by decide)
    have F127_maxActive : Fld Z h127 b127 "com/example/hongdae/hongdae/sale/WaitingRoom$Change" "maxActive" "Ljava/lang/Integer;" .null := D127 (Or.inr (hw _ (List.mem_of_getElem? (i := 41) rfl))) (ty := (.object "java/lang/Integer")) (by decide)
    have F127_activeSeconds : Fld Z h127 b127 "com/example/hongdae/hongdae/sale/WaitingRoom$Change" "activeSeconds" "Ljava/lang/Integer;" .null := D127 (Or.inr (hw _ (List.mem_of_getElem? (i := 43) rfl))) (ty := (.object "java/lang/Integer")) (by decide)
    refine own_by st127 ?_
    show own_End p e below _ (T127.setTop (mkF m 213 #[.val (.long q1), .second, .val (.long q2), .second, .val (.long q3), .second, .val (.long q4), .second, .val (.int p5), .val (.int ga), .val (.int gt), .val (.int gm), .val (.int gs), .val (.int ra), .val (.int rt), .val (.int rm), .val (.int rs), .val (.int f1), .val (.int f2), .val (.int f3), .val (.int f4), .val (.int (1 : Int32)), .val .null, .val v1, .val v2, .val v3, .val v4, .unset, .unset] [(.ref b127)]))
    refine own_by (fun _ k => XS.dup X127.here hx rfl (hb hby at_213) rfl rfl k) ?_
    show own_End p e below _ (T127.setTop (mkF m 214 #[.val (.long q1), .second, .val (.long q2), .second, .val (.long q3), .second, .val (.long q4), .second, .val (.int p5), .val (.int ga), .val (.int gt), .val (.int gm), .val (.int gs), .val (.int ra), .val (.int rt), .val (.int rm), .val (.int rs), .val (.int f1), .val (.int f2), .val (.int f3), .val (.int f4), .val (.int (1 : Int32)), .val .null, .val v1, .val v2, .val v3, .val v4, .unset, .unset] [(.ref b127), (.ref b127)]))
    refine own_by (fun _ k => XS.aload X127.here hx rfl (hb hby at_214) rfl ivj115.rf.is k) ?_
    show own_End p e below _ (T127.setTop (mkF m 216 #[.val (.long q1), .second, .val (.long q2), .second, .val (.long q3), .second, .val (.long q4), .second, .val (.int p5), .val (.int ga), .val (.int gt), .val (.int gm), .val (.int gs), .val (.int ra), .val (.int rt), .val (.int rm), .val (.int rs), .val (.int f1), .val (.int f2), .val (.int f3), .val (.int f4), .val (.int (1 : Int32)), .val .null, .val v1, .val v2, .val v3, .val v4, .unset, .unset] [v1, (.ref b127), (.ref b127)]))
    refine own_by (fun _ k => XS.aload X127.here hx rfl (hb hby at_216) rfl ivj118.rf.is k) ?_
    show own_End p e below _ (T127.setTop (mkF m 218 #[.val (.long q1), .second, .val (.long q2), .second, .val (.long q3), .second, .val (.long q4), .second, .val (.int p5), .val (.int ga), .val (.int gt), .val (.int gm), .val (.int gs), .val (.int ra), .val (.int rt), .val (.int rm), .val (.int rs), .val (.int f1), .val (.int f2), .val (.int f3), .val (.int f4), .val (.int (1 : Int32)), .val .null, .val v1, .val v2, .val v3, .val v4, .unset, .unset] [v2, v1, (.ref b127), (.ref b127)]))
    refine own_by (fun _ k => XS.aload X127.here hx rfl (hb hby at_218) rfl ivj121.rf.is k) ?_
    show own_End p e below _ (T127.setTop (mkF m 220 #[.val (.long q1), .second, .val (.long q2), .second, .val (.long q3), .second, .val (.long q4), .second, .val (.int p5), .val (.int ga), .val (.int gt), .val (.int gm), .val (.int gs), .val (.int ra), .val (.int rt), .val (.int rm), .val (.int rs), .val (.int f1), .val (.int f2), .val (.int f3), .val (.int f4), .val (.int (1 : Int32)), .val .null, .val v1, .val v2, .val v3, .val v4, .unset, .unset] [v3, v2, v1, (.ref b127), (.ref b127)]))
    refine own_by (fun _ k => XS.aload X127.here hx rfl (hb hby at_220) rfl ivj124.rf.is k) ?_
    show own_End p e below _ (T127.setTop (mkF m 222 #[.val (.long q1), .second, .val (.long q2), .second, .val (.long q3), .second, .val (.long q4), .second, .val (.int p5), .val (.int ga), .val (.int gt), .val (.int gm), .val (.int gs), .val (.int ra), .val (.int rt), .val (.int rm), .val (.int rs), .val (.int f1), .val (.int f2), .val (.int f3), .val (.int f4), .val (.int (1 : Int32)), .val .null, .val v1, .val v2, .val v3, .val v4, .unset, .unset] [v4, v3, v2, v1, (.ref b127), (.ref b127)]))
    obtain ⟨_, _, ⟨T128, L128, k128, n128⟩, -, X128, ⟨Lc128, hQ128, l128, y128, z128⟩, st128⟩ := X127.specialBack hx (y := (⟨"com/example/hongdae/hongdae/sale/WaitingRoom$Change", "<init>", "(Ljava/lang/Integer;Ljava/lang/Integer;Ljava/lang/Integer;Ljava/lang/Integer;)V"⟩ : MethodName)) rfl hown (mvT hZ (hw _ (List.mem_of_getElem? (i := 32) rfl))) (mvT hZ (hw _ (List.mem_of_getElem? (i := 33) rfl))) (mvT hZ (hw _ (List.mem_of_getElem? (i := 34) rfl))) (by decide) (own_back (W := 1) (own_chi l Z a0 hw [] b127 v1 v2 v3 v4 h127 n0 hj124 E127 (Nat.le_of_eq g127.symm) Z0 g_b127 A127 F127_admitPerTick F127_tickSeconds F127_maxActive F127_activeSeconds ivj115.rf ivj118.rf ivj121.rf ivj124.rf) hZ (hw _ (List.mem_of_getElem? (i := 34) rfl)) (hw _ (List.mem_of_getElem? (i := 31) rfl)) (by decide) (by decide)) (g := (mkF m 222 #[.val (.long q1), .second, .val (.long q2), .second, .val (.long q3), .second, .val (.long q4), .second, .val (.int p5), .val (.int ga), .val (.int gt), .val (.int gm), .val (.int gs), .val (.int ra), .val (.int rt), .val (.int rm), .val (.int rs), .val (.int f1), .val (.int f2), .val (.int f3), .val (.int f4), .val (.int (1 : Int32)), .val .null, .val v1, .val v2, .val v3, .val v4, .unset, .unset] [v4, v3, v2, v1, (.ref b127), (.ref b127)])) rfl (by rw [hml]; rfl) (Steps.refl _) (a := b127) (argsL := [v1, v2, v3, v4]) (rest := [(.ref b127)]) (lenOf own_pd7 rfl) rfl (by show 2 * 0 + _ ≤ _; exact Nat.le_of_eq rfl) (hb hby at_222) (fun _ _ => ⟨rfl, e127, (by decide : 5 + 0 ≤ _), (by decide : 8 + 0 ≤ _)⟩)
    dsimp only [Pt.U, Pt.locs, Pt.cells, Pt.slots] at X128 l128 y128 z128 st128 hQ128
    subst l128 y128 z128
    obtain ⟨rfl, N128q, Ob128, Kp128, Fm128⟩ := hQ128
    have N128 := Fr.app Nj124 N128q
    refine own_by (fun _ k => st128.trans k) ?_
    have O128 := own_ext O124 Ob128
    have iv1_128 := iv1_124.ext Ob128
    have iv2_128 := iv2_124.ext Ob128
    have iv3_128 := iv3_124.ext Ob128
    have iv4_128 := ivj124.ext Ob128
    show own_End p e below _ (T128.setTop (mkF m 225 #[.val (.long q1), .second, .val (.long q2), .second, .val (.long q3), .second, .val (.long q4), .second, .val (.int p5), .val (.int ga), .val (.int gt), .val (.int gm), .val (.int gs), .val (.int ra), .val (.int rt), .val (.int rm), .val (.int rs), .val (.int f1), .val (.int f2), .val (.int f3), .val (.int f4), .val (.int (1 : Int32)), .val .null, .val v1, .val v2, .val v3, .val v4, .unset, .unset] [(.ref b127)]))
    refine own_by (fun _ k => XS.astore X128.here hx rfl (hb hby at_225) rfl rfl (l' := #[.val (.long q1), .second, .val (.long q2), .second, .val (.long q3), .second, .val (.long q4), .second, .val (.int p5), .val (.int ga), .val (.int gt), .val (.int gm), .val (.int gs), .val (.int ra), .val (.int rt), .val (.int rm), .val (.int rs), .val (.int f1), .val (.int f2), .val (.int f3), .val (.int f4), .val (.int (1 : Int32)), .val .null, .val v1, .val v2, .val v3, .val v4, .val (.ref b127), .unset]) rfl k) ?_
    show own_End p e below _ (T128.setTop (mkF m 227 #[.val (.long q1), .second, .val (.long q2), .second, .val (.long q3), .second, .val (.long q4), .second, .val (.int p5), .val (.int ga), .val (.int gt), .val (.int gm), .val (.int gs), .val (.int ra), .val (.int rt), .val (.int rm), .val (.int rs), .val (.int f1), .val (.int f2), .val (.int f3), .val (.int f4), .val (.int (1 : Int32)), .val .null, .val v1, .val v2, .val v3, .val v4, .val (.ref b127), .unset] []))
    refine own_by (fun _ k => XS.aload X128.here hx rfl (hb hby at_227) rfl rfl k) ?_
    show own_End p e below _ (T128.setTop (mkF m 229 #[.val (.long q1), .second, .val (.long q2), .second, .val (.long q3), .second, .val (.long q4), .second, .val (.int p5), .val (.int ga), .val (.int gt), .val (.int gm), .val (.int gs), .val (.int ra), .val (.int rt), .val (.int rm), .val (.int rs), .val (.int f1), .val (.int f2), .val (.int f3), .val (.int f4), .val (.int (1 : Int32)), .val .null, .val v1, .val v2, .val v3, .val v4, .val (.ref b127), .unset] [(.ref b127)]))
    refine own_by (fun _ k => XS.aload X128.here hx rfl (hb hby at_229) rfl rfl k) ?_
    show own_End p e below _ (T128.setTop (mkF m 231 #[.val (.long q1), .second, .val (.long q2), .second, .val (.long q3), .second, .val (.long q4), .second, .val (.int p5), .val (.int ga), .val (.int gt), .val (.int gm), .val (.int gs), .val (.int ra), .val (.int rt), .val (.int rm), .val (.int rs), .val (.int f1), .val (.int f2), .val (.int f3), .val (.int f4), .val (.int (1 : Int32)), .val .null, .val v1, .val v2, .val v3, .val v4, .val (.ref b127), .unset] [.null, (.ref b127)]))
    obtain ⟨cq129, kq129, q129a, q129b, q129c⟩ := isOf hZ rfl Fm128.1
    obtain ⟨_, _, ⟨T129, L129, k129, n129⟩, -, X129, hS129, gr129, ⟨Lc129, hQ129, l129, y129, z129⟩, st129⟩ := X128.virtualBackS hx (y := (⟨"com/example/hongdae/hongdae/sale/WaitingRoom$Change", "applyTo", "(Lcom/example/hongdae/hongdae/sale/WaitingRoom;)Lcom/example/hongdae/hongdae/sale/WaitingRoom;"⟩ : MethodName)) (z := (⟨"com/example/hongdae/hongdae/sale/WaitingRoom$Change", "applyTo", "(Lcom/example/hongdae/hongdae/sale/WaitingRoom;)Lcom/example/hongdae/hongdae/sale/WaitingRoom;"⟩ : MethodName)) hown (mvT hZ (hw _ (List.mem_of_getElem? (i := 44) rfl))) (mvT hZ (hw _ (List.mem_of_getElem? (i := 45) rfl))) (notFace_of_selects (args := #[]) (mvT hZ (hw _ (List.mem_of_getElem? (i := 47) rfl)))) (mvT hZ (hw _ (List.mem_of_getElem? (i := 47) rfl))) (mvT hZ (hw _ (List.mem_of_getElem? (i := 46) rfl))) (by decide) (own_backS (W := 0) (own_appN l Z a0 hw [] b127 wD v1 v2 v3 v4 f1 f2 f3 f4 ga gt gm gs 3000 10 0 300 T128.heap n0 Z0 O128 hC S_D (own_WRf.ext base_D O128) Fm128 iv1_128 iv2_128 iv3_128 iv4_128) hZ (hw _ (List.mem_of_getElem? (i := 48) rfl)) (hw _ (List.mem_of_getElem? (i := 31) rfl)) (by decide) (by decide)) q129a q129c (g := (mkF m 231 #[.val (.long q1), .second, .val (.long q2), .second, .val (.long q3), .second, .val (.long q4), .second, .val (.int p5), .val (.int ga), .val (.int gt), .val (.int gm), .val (.int gs), .val (.int ra), .val (.int rt), .val (.int rm), .val (.int rs), .val (.int f1), .val (.int f2), .val (.int f3), .val (.int f4), .val (.int (1 : Int32)), .val .null, .val v1, .val v2, .val v3, .val v4, .val (.ref b127), .unset] [.null, (.ref b127)])) rfl (by rw [hml]; rfl) (Steps.refl _) (argsL := [.null]) (rest := []) (lenOf own_pd8 rfl) rfl (by show 2 * 0 + _ ≤ _; exact Nat.le_of_eq rfl) (hb hby at_231) (fun _ _ => ⟨rfl, rfl, (by decide : 5 + 13 ≤ _), (by decide : 8 + 184 ≤ _)⟩)
    dsimp only [Pt.U, Pt.locs, Pt.cells, Pt.slots] at X129 l129 y129 z129 st129 hQ129 hS129 gr129
    subst l129 y129 z129
    obtain ⟨ou, rfl, N129q, Fo129⟩ := hQ129
    have N129 := Fr.app N128 N129q
    have hZ129 : Z.Warmed39 (s.setVm T129.vm).vm := State.Warmed39.trans hZ hS129.1
    have hown129 : (s.setVm T129.vm).vm.findClass "com/example/hongdae/hongdae/sale/ChangeApplyToPinLaw" = some m.cls := (hS129.1.alike.findClass _ _).trans hown
    refine own_by (fun _ k => st129.trans k) ?_
    show own_End p e below _ (T129.setTop (mkF m 234 #[.val (.long q1), .second, .val (.long q2), .second, .val (.long q3), .second, .val (.long q4), .second, .val (.int p5), .val (.int ga), .val (.int gt), .val (.int gm), .val (.int gs), .val (.int ra), .val (.int rt), .val (.int rm), .val (.int rs), .val (.int f1), .val (.int f2), .val (.int f3), .val (.int f4), .val (.int (1 : Int32)), .val .null, .val v1, .val v2, .val v3, .val v4, .val (.ref b127), .unset] [(.ref ou)]))
    refine own_by (fun _ k => XS.astore X129.here hx rfl (hb hby at_234) rfl rfl (l' := #[.val (.long q1), .second, .val (.long q2), .second, .val (.long q3), .second, .val (.long q4), .second, .val (.int p5), .val (.int ga), .val (.int gt), .val (.int gm), .val (.int gs), .val (.int ra), .val (.int rt), .val (.int rm), .val (.int rs), .val (.int f1), .val (.int f2), .val (.int f3), .val (.int f4), .val (.int (1 : Int32)), .val .null, .val v1, .val v2, .val v3, .val v4, .val (.ref b127), .val (.ref ou)]) rfl k) ?_
    show own_End p e below _ (T129.setTop (mkF m 236 #[.val (.long q1), .second, .val (.long q2), .second, .val (.long q3), .second, .val (.long q4), .second, .val (.int p5), .val (.int ga), .val (.int gt), .val (.int gm), .val (.int gs), .val (.int ra), .val (.int rt), .val (.int rm), .val (.int rs), .val (.int f1), .val (.int f2), .val (.int f3), .val (.int f4), .val (.int (1 : Int32)), .val .null, .val v1, .val v2, .val v3, .val v4, .val (.ref b127), .val (.ref ou)] []))
    refine own_by (fun _ k => XS.aload X129.here hx rfl (hb hby at_236) rfl rfl k) ?_
    show own_End p e below _ (T129.setTop (mkF m 238 #[.val (.long q1), .second, .val (.long q2), .second, .val (.long q3), .second, .val (.long q4), .second, .val (.int p5), .val (.int ga), .val (.int gt), .val (.int gm), .val (.int gs), .val (.int ra), .val (.int rt), .val (.int rm), .val (.int rs), .val (.int f1), .val (.int f2), .val (.int f3), .val (.int f4), .val (.int (1 : Int32)), .val .null, .val v1, .val v2, .val v3, .val v4, .val (.ref b127), .val (.ref ou)] [(.ref ou)]))
    refine own_by (fun _ k => XS.ifnonnullYes X129.here hx rfl (pc0 := 238) (pc' := 243) rfl (hb hby at_238) rfl (by decide) (by decide) k) ?_
    show own_End p e below _ (T129.setTop (mkF m 243 #[.val (.long q1), .second, .val (.long q2), .second, .val (.long q3), .second, .val (.long q4), .second, .val (.int p5), .val (.int ga), .val (.int gt), .val (.int gm), .val (.int gs), .val (.int ra), .val (.int rt), .val (.int rm), .val (.int rs), .val (.int f1), .val (.int f2), .val (.int f3), .val (.int f4), .val (.int (1 : Int32)), .val .null, .val v1, .val v2, .val v3, .val v4, .val (.ref b127), .val (.ref ou)] []))
    refine own_by (fun _ k => XS.aload X129.here hx rfl (hb hby at_243) rfl rfl k) ?_
    show own_End p e below _ (T129.setTop (mkF m 245 #[.val (.long q1), .second, .val (.long q2), .second, .val (.long q3), .second, .val (.long q4), .second, .val (.int p5), .val (.int ga), .val (.int gt), .val (.int gm), .val (.int gs), .val (.int ra), .val (.int rt), .val (.int rm), .val (.int rs), .val (.int f1), .val (.int f2), .val (.int f3), .val (.int f4), .val (.int (1 : Int32)), .val .null, .val v1, .val v2, .val v3, .val v4, .val (.ref b127), .val (.ref ou)] [(.ref ou)]))
    obtain ⟨cq130, kq130, q130a, q130b, q130c⟩ := isOf hZ129 rfl Fo129.1
    obtain ⟨_, _, ⟨T130, L130, k130, n130⟩, -, X130, ⟨Lc130, hQ130, l130, y130, z130⟩, st130⟩ := X129.virtualBack hx (y := (⟨"com/example/hongdae/hongdae/sale/WaitingRoom", "admitPerTick", "()I"⟩ : MethodName)) (z := (⟨"com/example/hongdae/hongdae/sale/WaitingRoom", "admitPerTick", "()I"⟩ : MethodName)) hown129 (mvT hZ129 (hw _ (List.mem_of_getElem? (i := 108) rfl))) (mvT hZ129 (hw _ (List.mem_of_getElem? (i := 51) rfl))) (notFace_of_selects (args := #[]) (mvT hZ129 (hw _ (List.mem_of_getElem? (i := 53) rfl)))) (mvT hZ129 (hw _ (List.mem_of_getElem? (i := 53) rfl))) (mvT hZ129 (hw _ (List.mem_of_getElem? (i := 52) rfl))) (by decide) (own_back (W := 0) (own_get1 l Z a0 hw [] ou (own_sel f1 ga (3000 : Int32)) T129.heap n0 Fo129.2.1) hZ129 (hw _ (List.mem_of_getElem? (i := 54) rfl)) (hw _ (List.mem_of_getElem? (i := 2) rfl)) (by decide) (by decide)) q130a q130c (g := (mkF m 245 #[.val (.long q1), .second, .val (.long q2), .second, .val (.long q3), .second, .val (.long q4), .second, .val (.int p5), .val (.int ga), .val (.int gt), .val (.int gm), .val (.int gs), .val (.int ra), .val (.int rt), .val (.int rm), .val (.int rs), .val (.int f1), .val (.int f2), .val (.int f3), .val (.int f4), .val (.int (1 : Int32)), .val .null, .val v1, .val v2, .val v3, .val v4, .val (.ref b127), .val (.ref ou)] [(.ref ou)])) rfl (by rw [hml]; rfl) (Steps.refl _) (argsL := []) (rest := []) (lenOf own_pd3 rfl) rfl (by show 2 * 0 + _ ≤ _; exact Nat.le_of_eq rfl) (hb hby at_245) (fun _ _ => ⟨rfl, rfl, (by decide : 18 + 0 ≤ _), (by decide : 192 + 0 ≤ _)⟩)
    dsimp only [Pt.U, Pt.locs, Pt.cells, Pt.slots] at X130 l130 y130 z130 st130 hQ130
    subst l130 y130 z130
    obtain ⟨rfl, N130q, e130⟩ := hQ130
    have N130 := Fr.app N129 N130q
    refine own_by (fun _ k => st130.trans k) ?_
    have Fo130 := Fo129
    show own_End p e below _ (T130.setTop (mkF m 248 #[.val (.long q1), .second, .val (.long q2), .second, .val (.long q3), .second, .val (.long q4), .second, .val (.int p5), .val (.int ga), .val (.int gt), .val (.int gm), .val (.int gs), .val (.int ra), .val (.int rt), .val (.int rm), .val (.int rs), .val (.int f1), .val (.int f2), .val (.int f3), .val (.int f4), .val (.int (1 : Int32)), .val .null, .val v1, .val v2, .val v3, .val v4, .val (.ref b127), .val (.ref ou)] [(.int (own_sel f1 ga (3000 : Int32)))]))
    refine own_by (fun _ k => XS.iload X130.here hx rfl (hb hby at_248) rfl k) ?_
    show own_End p e below _ (T130.setTop (mkF m 250 #[.val (.long q1), .second, .val (.long q2), .second, .val (.long q3), .second, .val (.long q4), .second, .val (.int p5), .val (.int ga), .val (.int gt), .val (.int gm), .val (.int gs), .val (.int ra), .val (.int rt), .val (.int rm), .val (.int rs), .val (.int f1), .val (.int f2), .val (.int f3), .val (.int f4), .val (.int (1 : Int32)), .val .null, .val v1, .val v2, .val v3, .val v4, .val (.ref b127), .val (.ref ou)] [(.int f1), (.int (own_sel f1 ga (3000 : Int32)))]))
    refine own_by (fun _ k => XS.iload X130.here hx rfl (hb hby at_250) rfl k) ?_
    show own_End p e below _ (T130.setTop (mkF m 252 #[.val (.long q1), .second, .val (.long q2), .second, .val (.long q3), .second, .val (.long q4), .second, .val (.int p5), .val (.int ga), .val (.int gt), .val (.int gm), .val (.int gs), .val (.int ra), .val (.int rt), .val (.int rm), .val (.int rs), .val (.int f1), .val (.int f2), .val (.int f3), .val (.int f4), .val (.int (1 : Int32)), .val .null, .val v1, .val v2, .val v3, .val v4, .val (.ref b127), .val (.ref ou)] [(.int ga), (.int f1), (.int (own_sel f1 ga (3000 : Int32)))]))
    refine own_by (fun _ k => XS.iload X130.here hx rfl (hb hby at_252) rfl k) ?_
    show own_End p e below _ (T130.setTop (mkF m 254 #[.val (.long q1), .second, .val (.long q2), .second, .val (.long q3), .second, .val (.long q4), .second, .val (.int p5), .val (.int ga), .val (.int gt), .val (.int gm), .val (.int gs), .val (.int ra), .val (.int rt), .val (.int rm), .val (.int rs), .val (.int f1), .val (.int f2), .val (.int f3), .val (.int f4), .val (.int (1 : Int32)), .val .null, .val v1, .val v2, .val v3, .val v4, .val (.ref b127), .val (.ref ou)] [(.int (1 : Int32)), (.int ga), (.int f1), (.int (own_sel f1 ga (3000 : Int32)))]))
    refine own_by (fun _ k => XS.iload X130.here hx rfl (hb hby at_254) rfl k) ?_
    show own_End p e below _ (T130.setTop (mkF m 256 #[.val (.long q1), .second, .val (.long q2), .second, .val (.long q3), .second, .val (.long q4), .second, .val (.int p5), .val (.int ga), .val (.int gt), .val (.int gm), .val (.int gs), .val (.int ra), .val (.int rt), .val (.int rm), .val (.int rs), .val (.int f1), .val (.int f2), .val (.int f3), .val (.int f4), .val (.int (1 : Int32)), .val .null, .val v1, .val v2, .val v3, .val v4, .val (.ref b127), .val (.ref ou)] [(.int ra), (.int (1 : Int32)), (.int ga), (.int f1), (.int (own_sel f1 ga (3000 : Int32)))]))
    refine own_by (fun _ k => XS.sipush X130.here hx rfl (hb hby at_256) k) ?_
    show own_End p e below _ (T130.setTop (mkF m 259 #[.val (.long q1), .second, .val (.long q2), .second, .val (.long q3), .second, .val (.long q4), .second, .val (.int p5), .val (.int ga), .val (.int gt), .val (.int gm), .val (.int gs), .val (.int ra), .val (.int rt), .val (.int rm), .val (.int rs), .val (.int f1), .val (.int f2), .val (.int f3), .val (.int f4), .val (.int (1 : Int32)), .val .null, .val v1, .val v2, .val v3, .val v4, .val (.ref b127), .val (.ref ou)] [(.int (3000 : Int32)), (.int ra), (.int (1 : Int32)), (.int ga), (.int f1), (.int (own_sel f1 ga (3000 : Int32)))]))
    obtain ⟨_, _, ⟨T131, L131, k131, n131⟩, -, X131, ⟨Lc131, hQ131, l131, y131, z131⟩, st131⟩ := Jvm.LawKit.callS X130 hx (y := (⟨"com/example/hongdae/hongdae/sale/ChangeApplyToPinLaw", "expect", "(ZIZII)I"⟩ : MethodName)) hown129 (mvT hZ129 (hw _ (List.mem_of_getElem? (i := 109) rfl))) (mvT hZ129 (hw _ (List.mem_of_getElem? (i := 110) rfl))) (mvT hZ129 (hw _ (List.mem_of_getElem? (i := 111) rfl))) (mvT hZ129 (hw _ (List.mem_of_getElem? (i := 112) rfl))) (by decide) (own_back (W := 1) (own_exp1 l Z a0 hw [] f1 ga ra (3000 : Int32) T129.heap n0) hZ129 (hw _ (List.mem_of_getElem? (i := 112) rfl)) (hw _ (List.mem_of_getElem? (i := 111) rfl)) (by decide) (by decide)) (g := (mkF m 259 #[.val (.long q1), .second, .val (.long q2), .second, .val (.long q3), .second, .val (.long q4), .second, .val (.int p5), .val (.int ga), .val (.int gt), .val (.int gm), .val (.int gs), .val (.int ra), .val (.int rt), .val (.int rm), .val (.int rs), .val (.int f1), .val (.int f2), .val (.int f3), .val (.int f4), .val (.int (1 : Int32)), .val .null, .val v1, .val v2, .val v3, .val v4, .val (.ref b127), .val (.ref ou)] [(.int (3000 : Int32)), (.int ra), (.int (1 : Int32)), (.int ga), (.int f1), (.int (own_sel f1 ga (3000 : Int32)))])) rfl (by rw [hml]; rfl) (argsL := [(.int f1), (.int ga), (.int (1 : Int32)), (.int ra), (.int (3000 : Int32))]) (rest := [(.int (own_sel f1 ga (3000 : Int32)))]) (lenOf own_pd9 rfl) rfl (by show 2 * 0 + _ ≤ _; exact Nat.le_of_eq rfl) (hb hby at_259) (fun _ _ => ⟨rfl, e130, (by decide : 18 + 0 ≤ _), (by decide : 192 + 0 ≤ _)⟩)
    dsimp only [Pt.U, Pt.locs, Pt.cells, Pt.slots] at X131 l131 y131 z131 st131 hQ131
    subst l131 y131 z131
    obtain ⟨rfl, N131q, e131⟩ := hQ131
    have N131 := Fr.app N130 N131q
    refine own_by st131 ?_
    show own_End p e below _ (T131.setTop (mkF m 262 #[.val (.long q1), .second, .val (.long q2), .second, .val (.long q3), .second, .val (.long q4), .second, .val (.int p5), .val (.int ga), .val (.int gt), .val (.int gm), .val (.int gs), .val (.int ra), .val (.int rt), .val (.int rm), .val (.int rs), .val (.int f1), .val (.int f2), .val (.int f3), .val (.int f4), .val (.int (1 : Int32)), .val .null, .val v1, .val v2, .val v3, .val v4, .val (.ref b127), .val (.ref ou)] [(.int (own_sel f1 ga (3000 : Int32))), (.int (own_sel f1 ga (3000 : Int32)))]))
    refine own_by (fun _ k => XS.icmpNo X131.here hx rfl (hb hby at_262) rfl (teq rfl).2 k) ?_
    show own_End p e below _ (T131.setTop (mkF m 265 #[.val (.long q1), .second, .val (.long q2), .second, .val (.long q3), .second, .val (.long q4), .second, .val (.int p5), .val (.int ga), .val (.int gt), .val (.int gm), .val (.int gs), .val (.int ra), .val (.int rt), .val (.int rm), .val (.int rs), .val (.int f1), .val (.int f2), .val (.int f3), .val (.int f4), .val (.int (1 : Int32)), .val .null, .val v1, .val v2, .val v3, .val v4, .val (.ref b127), .val (.ref ou)] []))
    refine own_by (fun _ k => XS.aload X131.here hx rfl (hb hby at_265) rfl rfl k) ?_
    show own_End p e below _ (T131.setTop (mkF m 267 #[.val (.long q1), .second, .val (.long q2), .second, .val (.long q3), .second, .val (.long q4), .second, .val (.int p5), .val (.int ga), .val (.int gt), .val (.int gm), .val (.int gs), .val (.int ra), .val (.int rt), .val (.int rm), .val (.int rs), .val (.int f1), .val (.int f2), .val (.int f3), .val (.int f4), .val (.int (1 : Int32)), .val .null, .val v1, .val v2, .val v3, .val v4, .val (.ref b127), .val (.ref ou)] [(.ref ou)]))
    obtain ⟨cq132, kq132, q132a, q132b, q132c⟩ := isOf hZ129 e131 Fo129.1
    obtain ⟨_, _, ⟨T132, L132, k132, n132⟩, -, X132, ⟨Lc132, hQ132, l132, y132, z132⟩, st132⟩ := X131.virtualBack hx (y := (⟨"com/example/hongdae/hongdae/sale/WaitingRoom", "tickSeconds", "()I"⟩ : MethodName)) (z := (⟨"com/example/hongdae/hongdae/sale/WaitingRoom", "tickSeconds", "()I"⟩ : MethodName)) hown129 (mvT hZ129 (hw _ (List.mem_of_getElem? (i := 113) rfl))) (mvT hZ129 (hw _ (List.mem_of_getElem? (i := 93) rfl))) (notFace_of_selects (args := #[]) (mvT hZ129 (hw _ (List.mem_of_getElem? (i := 95) rfl)))) (mvT hZ129 (hw _ (List.mem_of_getElem? (i := 95) rfl))) (mvT hZ129 (hw _ (List.mem_of_getElem? (i := 94) rfl))) (by decide) (own_back (W := 0) (own_get2 l Z a0 hw [] ou (own_sel f2 gt (10 : Int32)) T129.heap n0 Fo129.2.2.1) hZ129 (hw _ (List.mem_of_getElem? (i := 96) rfl)) (hw _ (List.mem_of_getElem? (i := 2) rfl)) (by decide) (by decide)) q132a q132c (g := (mkF m 267 #[.val (.long q1), .second, .val (.long q2), .second, .val (.long q3), .second, .val (.long q4), .second, .val (.int p5), .val (.int ga), .val (.int gt), .val (.int gm), .val (.int gs), .val (.int ra), .val (.int rt), .val (.int rm), .val (.int rs), .val (.int f1), .val (.int f2), .val (.int f3), .val (.int f4), .val (.int (1 : Int32)), .val .null, .val v1, .val v2, .val v3, .val v4, .val (.ref b127), .val (.ref ou)] [(.ref ou)])) rfl (by rw [hml]; rfl) (Steps.refl _) (argsL := []) (rest := []) (lenOf own_pd3 rfl) rfl (by show 2 * 0 + _ ≤ _; exact Nat.le_of_eq rfl) (hb hby at_267) (fun _ _ => ⟨rfl, e131, (by decide : 18 + 0 ≤ _), (by decide : 192 + 0 ≤ _)⟩)
    dsimp only [Pt.U, Pt.locs, Pt.cells, Pt.slots] at X132 l132 y132 z132 st132 hQ132
    subst l132 y132 z132
    obtain ⟨rfl, N132q, e132⟩ := hQ132
    have N132 := Fr.app N131 N132q
    refine own_by (fun _ k => st132.trans k) ?_
    have Fo132 := Fo129
    show own_End p e below _ (T132.setTop (mkF m 270 #[.val (.long q1), .second, .val (.long q2), .second, .val (.long q3), .second, .val (.long q4), .second, .val (.int p5), .val (.int ga), .val (.int gt), .val (.int gm), .val (.int gs), .val (.int ra), .val (.int rt), .val (.int rm), .val (.int rs), .val (.int f1), .val (.int f2), .val (.int f3), .val (.int f4), .val (.int (1 : Int32)), .val .null, .val v1, .val v2, .val v3, .val v4, .val (.ref b127), .val (.ref ou)] [(.int (own_sel f2 gt (10 : Int32)))]))
    refine own_by (fun _ k => XS.iload X132.here hx rfl (hb hby at_270) rfl k) ?_
    show own_End p e below _ (T132.setTop (mkF m 272 #[.val (.long q1), .second, .val (.long q2), .second, .val (.long q3), .second, .val (.long q4), .second, .val (.int p5), .val (.int ga), .val (.int gt), .val (.int gm), .val (.int gs), .val (.int ra), .val (.int rt), .val (.int rm), .val (.int rs), .val (.int f1), .val (.int f2), .val (.int f3), .val (.int f4), .val (.int (1 : Int32)), .val .null, .val v1, .val v2, .val v3, .val v4, .val (.ref b127), .val (.ref ou)] [(.int f2), (.int (own_sel f2 gt (10 : Int32)))]))
    refine own_by (fun _ k => XS.iload X132.here hx rfl (hb hby at_272) rfl k) ?_
    show own_End p e below _ (T132.setTop (mkF m 274 #[.val (.long q1), .second, .val (.long q2), .second, .val (.long q3), .second, .val (.long q4), .second, .val (.int p5), .val (.int ga), .val (.int gt), .val (.int gm), .val (.int gs), .val (.int ra), .val (.int rt), .val (.int rm), .val (.int rs), .val (.int f1), .val (.int f2), .val (.int f3), .val (.int f4), .val (.int (1 : Int32)), .val .null, .val v1, .val v2, .val v3, .val v4, .val (.ref b127), .val (.ref ou)] [(.int gt), (.int f2), (.int (own_sel f2 gt (10 : Int32)))]))
    refine own_by (fun _ k => XS.iload X132.here hx rfl (hb hby at_274) rfl k) ?_
    show own_End p e below _ (T132.setTop (mkF m 276 #[.val (.long q1), .second, .val (.long q2), .second, .val (.long q3), .second, .val (.long q4), .second, .val (.int p5), .val (.int ga), .val (.int gt), .val (.int gm), .val (.int gs), .val (.int ra), .val (.int rt), .val (.int rm), .val (.int rs), .val (.int f1), .val (.int f2), .val (.int f3), .val (.int f4), .val (.int (1 : Int32)), .val .null, .val v1, .val v2, .val v3, .val v4, .val (.ref b127), .val (.ref ou)] [(.int (1 : Int32)), (.int gt), (.int f2), (.int (own_sel f2 gt (10 : Int32)))]))
    refine own_by (fun _ k => XS.iload X132.here hx rfl (hb hby at_276) rfl k) ?_
    show own_End p e below _ (T132.setTop (mkF m 278 #[.val (.long q1), .second, .val (.long q2), .second, .val (.long q3), .second, .val (.long q4), .second, .val (.int p5), .val (.int ga), .val (.int gt), .val (.int gm), .val (.int gs), .val (.int ra), .val (.int rt), .val (.int rm), .val (.int rs), .val (.int f1), .val (.int f2), .val (.int f3), .val (.int f4), .val (.int (1 : Int32)), .val .null, .val v1, .val v2, .val v3, .val v4, .val (.ref b127), .val (.ref ou)] [(.int rt), (.int (1 : Int32)), (.int gt), (.int f2), (.int (own_sel f2 gt (10 : Int32)))]))
    refine own_by (fun _ k => XS.bipush X132.here hx rfl (hb hby at_278) k) ?_
    show own_End p e below _ (T132.setTop (mkF m 280 #[.val (.long q1), .second, .val (.long q2), .second, .val (.long q3), .second, .val (.long q4), .second, .val (.int p5), .val (.int ga), .val (.int gt), .val (.int gm), .val (.int gs), .val (.int ra), .val (.int rt), .val (.int rm), .val (.int rs), .val (.int f1), .val (.int f2), .val (.int f3), .val (.int f4), .val (.int (1 : Int32)), .val .null, .val v1, .val v2, .val v3, .val v4, .val (.ref b127), .val (.ref ou)] [(.int (10 : Int32)), (.int rt), (.int (1 : Int32)), (.int gt), (.int f2), (.int (own_sel f2 gt (10 : Int32)))]))
    obtain ⟨_, _, ⟨T133, L133, k133, n133⟩, -, X133, ⟨Lc133, hQ133, l133, y133, z133⟩, st133⟩ := Jvm.LawKit.callS X132 hx (y := (⟨"com/example/hongdae/hongdae/sale/ChangeApplyToPinLaw", "expect", "(ZIZII)I"⟩ : MethodName)) hown129 (mvT hZ129 (hw _ (List.mem_of_getElem? (i := 109) rfl))) (mvT hZ129 (hw _ (List.mem_of_getElem? (i := 110) rfl))) (mvT hZ129 (hw _ (List.mem_of_getElem? (i := 111) rfl))) (mvT hZ129 (hw _ (List.mem_of_getElem? (i := 112) rfl))) (by decide) (own_back (W := 1) (own_exp1 l Z a0 hw [] f2 gt rt (10 : Int32) T129.heap n0) hZ129 (hw _ (List.mem_of_getElem? (i := 112) rfl)) (hw _ (List.mem_of_getElem? (i := 111) rfl)) (by decide) (by decide)) (g := (mkF m 280 #[.val (.long q1), .second, .val (.long q2), .second, .val (.long q3), .second, .val (.long q4), .second, .val (.int p5), .val (.int ga), .val (.int gt), .val (.int gm), .val (.int gs), .val (.int ra), .val (.int rt), .val (.int rm), .val (.int rs), .val (.int f1), .val (.int f2), .val (.int f3), .val (.int f4), .val (.int (1 : Int32)), .val .null, .val v1, .val v2, .val v3, .val v4, .val (.ref b127), .val (.ref ou)] [(.int (10 : Int32)), (.int rt), (.int (1 : Int32)), (.int gt), (.int f2), (.int (own_sel f2 gt (10 : Int32)))])) rfl (by rw [hml]; rfl) (argsL := [(.int f2), (.int gt), (.int (1 : Int32)), (.int rt), (.int (10 : Int32))]) (rest := [(.int (own_sel f2 gt (10 : Int32)))]) (lenOf own_pd9 rfl) rfl (by show 2 * 0 + _ ≤ _; exact Nat.le_of_eq rfl) (hb hby at_280) (fun _ _ => ⟨rfl, e132, (by decide : 18 + 0 ≤ _), (by decide : 192 + 0 ≤ _)⟩)
    dsimp only [Pt.U, Pt.locs, Pt.cells, Pt.slots] at X133 l133 y133 z133 st133 hQ133
    subst l133 y133 z133
    obtain ⟨rfl, N133q, e133⟩ := hQ133
    have N133 := Fr.app N132 N133q
    refine own_by st133 ?_
    show own_End p e below _ (T133.setTop (mkF m 283 #[.val (.long q1), .second, .val (.long q2), .second, .val (.long q3), .second, .val (.long q4), .second, .val (.int p5), .val (.int ga), .val (.int gt), .val (.int gm), .val (.int gs), .val (.int ra), .val (.int rt), .val (.int rm), .val (.int rs), .val (.int f1), .val (.int f2), .val (.int f3), .val (.int f4), .val (.int (1 : Int32)), .val .null, .val v1, .val v2, .val v3, .val v4, .val (.ref b127), .val (.ref ou)] [(.int (own_sel f2 gt (10 : Int32))), (.int (own_sel f2 gt (10 : Int32)))]))
    refine own_by (fun _ k => XS.icmpNo X133.here hx rfl (hb hby at_283) rfl (teq rfl).2 k) ?_
    show own_End p e below _ (T133.setTop (mkF m 286 #[.val (.long q1), .second, .val (.long q2), .second, .val (.long q3), .second, .val (.long q4), .second, .val (.int p5), .val (.int ga), .val (.int gt), .val (.int gm), .val (.int gs), .val (.int ra), .val (.int rt), .val (.int rm), .val (.int rs), .val (.int f1), .val (.int f2), .val (.int f3), .val (.int f4), .val (.int (1 : Int32)), .val .null, .val v1, .val v2, .val v3, .val v4, .val (.ref b127), .val (.ref ou)] []))
    refine own_by (fun _ k => XS.aload X133.here hx rfl (hb hby at_286) rfl rfl k) ?_
    show own_End p e below _ (T133.setTop (mkF m 288 #[.val (.long q1), .second, .val (.long q2), .second, .val (.long q3), .second, .val (.long q4), .second, .val (.int p5), .val (.int ga), .val (.int gt), .val (.int gm), .val (.int gs), .val (.int ra), .val (.int rt), .val (.int rm), .val (.int rs), .val (.int f1), .val (.int f2), .val (.int f3), .val (.int f4), .val (.int (1 : Int32)), .val .null, .val v1, .val v2, .val v3, .val v4, .val (.ref b127), .val (.ref ou)] [(.ref ou)]))
    obtain ⟨cq134, kq134, q134a, q134b, q134c⟩ := isOf hZ129 e133 Fo129.1
    obtain ⟨_, _, ⟨T134, L134, k134, n134⟩, -, X134, ⟨Lc134, hQ134, l134, y134, z134⟩, st134⟩ := X133.virtualBack hx (y := (⟨"com/example/hongdae/hongdae/sale/WaitingRoom", "maxActive", "()I"⟩ : MethodName)) (z := (⟨"com/example/hongdae/hongdae/sale/WaitingRoom", "maxActive", "()I"⟩ : MethodName)) hown129 (mvT hZ129 (hw _ (List.mem_of_getElem? (i := 114) rfl))) (mvT hZ129 (hw _ (List.mem_of_getElem? (i := 98) rfl))) (notFace_of_selects (args := #[]) (mvT hZ129 (hw _ (List.mem_of_getElem? (i := 100) rfl)))) (mvT hZ129 (hw _ (List.mem_of_getElem? (i := 100) rfl))) (mvT hZ129 (hw _ (List.mem_of_getElem? (i := 99) rfl))) (by decide) (own_back (W := 0) (own_get3 l Z a0 hw [] ou (own_sel f3 gm (0 : Int32)) T129.heap n0 Fo129.2.2.2.1) hZ129 (hw _ (List.mem_of_getElem? (i := 101) rfl)) (hw _ (List.mem_of_getElem? (i := 2) rfl)) (by decide) (by decide)) q134a q134c (g := (mkF m 288 #[.val (.long q1), .second, .val (.long q2), .second, .val (.long q3), .second, .val (.long q4), .second, .val (.int p5), .val (.int ga), .val (.int gt), .val (.int gm), .val (.int gs), .val (.int ra), .val (.int rt), .val (.int rm), .val (.int rs), .val (.int f1), .val (.int f2), .val (.int f3), .val (.int f4), .val (.int (1 : Int32)), .val .null, .val v1, .val v2, .val v3, .val v4, .val (.ref b127), .val (.ref ou)] [(.ref ou)])) rfl (by rw [hml]; rfl) (Steps.refl _) (argsL := []) (rest := []) (lenOf own_pd3 rfl) rfl (by show 2 * 0 + _ ≤ _; exact Nat.le_of_eq rfl) (hb hby at_288) (fun _ _ => ⟨rfl, e133, (by decide : 18 + 0 ≤ _), (by decide : 192 + 0 ≤ _)⟩)
    dsimp only [Pt.U, Pt.locs, Pt.cells, Pt.slots] at X134 l134 y134 z134 st134 hQ134
    subst l134 y134 z134
    obtain ⟨rfl, N134q, e134⟩ := hQ134
    have N134 := Fr.app N133 N134q
    refine own_by (fun _ k => st134.trans k) ?_
    have Fo134 := Fo129
    show own_End p e below _ (T134.setTop (mkF m 291 #[.val (.long q1), .second, .val (.long q2), .second, .val (.long q3), .second, .val (.long q4), .second, .val (.int p5), .val (.int ga), .val (.int gt), .val (.int gm), .val (.int gs), .val (.int ra), .val (.int rt), .val (.int rm), .val (.int rs), .val (.int f1), .val (.int f2), .val (.int f3), .val (.int f4), .val (.int (1 : Int32)), .val .null, .val v1, .val v2, .val v3, .val v4, .val (.ref b127), .val (.ref ou)] [(.int (own_sel f3 gm (0 : Int32)))]))
    refine own_by (fun _ k => XS.iload X134.here hx rfl (hb hby at_291) rfl k) ?_
    show own_End p e below _ (T134.setTop (mkF m 293 #[.val (.long q1), .second, .val (.long q2), .second, .val (.long q3), .second, .val (.long q4), .second, .val (.int p5), .val (.int ga), .val (.int gt), .val (.int gm), .val (.int gs), .val (.int ra), .val (.int rt), .val (.int rm), .val (.int rs), .val (.int f1), .val (.int f2), .val (.int f3), .val (.int f4), .val (.int (1 : Int32)), .val .null, .val v1, .val v2, .val v3, .val v4, .val (.ref b127), .val (.ref ou)] [(.int f3), (.int (own_sel f3 gm (0 : Int32)))]))
    refine own_by (fun _ k => XS.iload X134.here hx rfl (hb hby at_293) rfl k) ?_
    show own_End p e below _ (T134.setTop (mkF m 295 #[.val (.long q1), .second, .val (.long q2), .second, .val (.long q3), .second, .val (.long q4), .second, .val (.int p5), .val (.int ga), .val (.int gt), .val (.int gm), .val (.int gs), .val (.int ra), .val (.int rt), .val (.int rm), .val (.int rs), .val (.int f1), .val (.int f2), .val (.int f3), .val (.int f4), .val (.int (1 : Int32)), .val .null, .val v1, .val v2, .val v3, .val v4, .val (.ref b127), .val (.ref ou)] [(.int gm), (.int f3), (.int (own_sel f3 gm (0 : Int32)))]))
    refine own_by (fun _ k => XS.iload X134.here hx rfl (hb hby at_295) rfl k) ?_
    show own_End p e below _ (T134.setTop (mkF m 297 #[.val (.long q1), .second, .val (.long q2), .second, .val (.long q3), .second, .val (.long q4), .second, .val (.int p5), .val (.int ga), .val (.int gt), .val (.int gm), .val (.int gs), .val (.int ra), .val (.int rt), .val (.int rm), .val (.int rs), .val (.int f1), .val (.int f2), .val (.int f3), .val (.int f4), .val (.int (1 : Int32)), .val .null, .val v1, .val v2, .val v3, .val v4, .val (.ref b127), .val (.ref ou)] [(.int (1 : Int32)), (.int gm), (.int f3), (.int (own_sel f3 gm (0 : Int32)))]))
    refine own_by (fun _ k => XS.iload X134.here hx rfl (hb hby at_297) rfl k) ?_
    show own_End p e below _ (T134.setTop (mkF m 299 #[.val (.long q1), .second, .val (.long q2), .second, .val (.long q3), .second, .val (.long q4), .second, .val (.int p5), .val (.int ga), .val (.int gt), .val (.int gm), .val (.int gs), .val (.int ra), .val (.int rt), .val (.int rm), .val (.int rs), .val (.int f1), .val (.int f2), .val (.int f3), .val (.int f4), .val (.int (1 : Int32)), .val .null, .val v1, .val v2, .val v3, .val v4, .val (.ref b127), .val (.ref ou)] [(.int rm), (.int (1 : Int32)), (.int gm), (.int f3), (.int (own_sel f3 gm (0 : Int32)))]))
    refine own_by (fun _ k => XS.iconst X134.here hx rfl (hb hby at_299) k) ?_
    show own_End p e below _ (T134.setTop (mkF m 300 #[.val (.long q1), .second, .val (.long q2), .second, .val (.long q3), .second, .val (.long q4), .second, .val (.int p5), .val (.int ga), .val (.int gt), .val (.int gm), .val (.int gs), .val (.int ra), .val (.int rt), .val (.int rm), .val (.int rs), .val (.int f1), .val (.int f2), .val (.int f3), .val (.int f4), .val (.int (1 : Int32)), .val .null, .val v1, .val v2, .val v3, .val v4, .val (.ref b127), .val (.ref ou)] [(.int (0 : Int32)), (.int rm), (.int (1 : Int32)), (.int gm), (.int f3), (.int (own_sel f3 gm (0 : Int32)))]))
    obtain ⟨_, _, ⟨T135, L135, k135, n135⟩, -, X135, ⟨Lc135, hQ135, l135, y135, z135⟩, st135⟩ := Jvm.LawKit.callS X134 hx (y := (⟨"com/example/hongdae/hongdae/sale/ChangeApplyToPinLaw", "expect", "(ZIZII)I"⟩ : MethodName)) hown129 (mvT hZ129 (hw _ (List.mem_of_getElem? (i := 109) rfl))) (mvT hZ129 (hw _ (List.mem_of_getElem? (i := 110) rfl))) (mvT hZ129 (hw _ (List.mem_of_getElem? (i := 111) rfl))) (mvT hZ129 (hw _ (List.mem_of_getElem? (i := 112) rfl))) (by decide) (own_back (W := 1) (own_exp1 l Z a0 hw [] f3 gm rm (0 : Int32) T129.heap n0) hZ129 (hw _ (List.mem_of_getElem? (i := 112) rfl)) (hw _ (List.mem_of_getElem? (i := 111) rfl)) (by decide) (by decide)) (g := (mkF m 300 #[.val (.long q1), .second, .val (.long q2), .second, .val (.long q3), .second, .val (.long q4), .second, .val (.int p5), .val (.int ga), .val (.int gt), .val (.int gm), .val (.int gs), .val (.int ra), .val (.int rt), .val (.int rm), .val (.int rs), .val (.int f1), .val (.int f2), .val (.int f3), .val (.int f4), .val (.int (1 : Int32)), .val .null, .val v1, .val v2, .val v3, .val v4, .val (.ref b127), .val (.ref ou)] [(.int (0 : Int32)), (.int rm), (.int (1 : Int32)), (.int gm), (.int f3), (.int (own_sel f3 gm (0 : Int32)))])) rfl (by rw [hml]; rfl) (argsL := [(.int f3), (.int gm), (.int (1 : Int32)), (.int rm), (.int (0 : Int32))]) (rest := [(.int (own_sel f3 gm (0 : Int32)))]) (lenOf own_pd9 rfl) rfl (by show 2 * 0 + _ ≤ _; exact Nat.le_of_eq rfl) (hb hby at_300) (fun _ _ => ⟨rfl, e134, (by decide : 18 + 0 ≤ _), (by decide : 192 + 0 ≤ _)⟩)
    dsimp only [Pt.U, Pt.locs, Pt.cells, Pt.slots] at X135 l135 y135 z135 st135 hQ135
    subst l135 y135 z135
    obtain ⟨rfl, N135q, e135⟩ := hQ135
    have N135 := Fr.app N134 N135q
    refine own_by st135 ?_
    show own_End p e below _ (T135.setTop (mkF m 303 #[.val (.long q1), .second, .val (.long q2), .second, .val (.long q3), .second, .val (.long q4), .second, .val (.int p5), .val (.int ga), .val (.int gt), .val (.int gm), .val (.int gs), .val (.int ra), .val (.int rt), .val (.int rm), .val (.int rs), .val (.int f1), .val (.int f2), .val (.int f3), .val (.int f4), .val (.int (1 : Int32)), .val .null, .val v1, .val v2, .val v3, .val v4, .val (.ref b127), .val (.ref ou)] [(.int (own_sel f3 gm (0 : Int32))), (.int (own_sel f3 gm (0 : Int32)))]))
    refine own_by (fun _ k => XS.icmpNo X135.here hx rfl (hb hby at_303) rfl (teq rfl).2 k) ?_
    show own_End p e below _ (T135.setTop (mkF m 306 #[.val (.long q1), .second, .val (.long q2), .second, .val (.long q3), .second, .val (.long q4), .second, .val (.int p5), .val (.int ga), .val (.int gt), .val (.int gm), .val (.int gs), .val (.int ra), .val (.int rt), .val (.int rm), .val (.int rs), .val (.int f1), .val (.int f2), .val (.int f3), .val (.int f4), .val (.int (1 : Int32)), .val .null, .val v1, .val v2, .val v3, .val v4, .val (.ref b127), .val (.ref ou)] []))
    refine own_by (fun _ k => XS.aload X135.here hx rfl (hb hby at_306) rfl rfl k) ?_
    show own_End p e below _ (T135.setTop (mkF m 308 #[.val (.long q1), .second, .val (.long q2), .second, .val (.long q3), .second, .val (.long q4), .second, .val (.int p5), .val (.int ga), .val (.int gt), .val (.int gm), .val (.int gs), .val (.int ra), .val (.int rt), .val (.int rm), .val (.int rs), .val (.int f1), .val (.int f2), .val (.int f3), .val (.int f4), .val (.int (1 : Int32)), .val .null, .val v1, .val v2, .val v3, .val v4, .val (.ref b127), .val (.ref ou)] [(.ref ou)]))
    obtain ⟨cq136, kq136, q136a, q136b, q136c⟩ := isOf hZ129 e135 Fo129.1
    obtain ⟨_, _, ⟨T136, L136, k136, n136⟩, -, X136, ⟨Lc136, hQ136, l136, y136, z136⟩, st136⟩ := X135.virtualBack hx (y := (⟨"com/example/hongdae/hongdae/sale/WaitingRoom", "activeSeconds", "()I"⟩ : MethodName)) (z := (⟨"com/example/hongdae/hongdae/sale/WaitingRoom", "activeSeconds", "()I"⟩ : MethodName)) hown129 (mvT hZ129 (hw _ (List.mem_of_getElem? (i := 115) rfl))) (mvT hZ129 (hw _ (List.mem_of_getElem? (i := 103) rfl))) (notFace_of_selects (args := #[]) (mvT hZ129 (hw _ (List.mem_of_getElem? (i := 105) rfl)))) (mvT hZ129 (hw _ (List.mem_of_getElem? (i := 105) rfl))) (mvT hZ129 (hw _ (List.mem_of_getElem? (i := 104) rfl))) (by decide) (own_back (W := 0) (own_get4 l Z a0 hw [] ou (own_sel f4 gs (300 : Int32)) T129.heap n0 Fo129.2.2.2.2) hZ129 (hw _ (List.mem_of_getElem? (i := 106) rfl)) (hw _ (List.mem_of_getElem? (i := 2) rfl)) (by decide) (by decide)) q136a q136c (g := (mkF m 308 #[.val (.long q1), .second, .val (.long q2), .second, .val (.long q3), .second, .val (.long q4), .second, .val (.int p5), .val (.int ga), .val (.int gt), .val (.int gm), .val (.int gs), .val (.int ra), .val (.int rt), .val (.int rm), .val (.int rs), .val (.int f1), .val (.int f2), .val (.int f3), .val (.int f4), .val (.int (1 : Int32)), .val .null, .val v1, .val v2, .val v3, .val v4, .val (.ref b127), .val (.ref ou)] [(.ref ou)])) rfl (by rw [hml]; rfl) (Steps.refl _) (argsL := []) (rest := []) (lenOf own_pd3 rfl) rfl (by show 2 * 0 + _ ≤ _; exact Nat.le_of_eq rfl) (hb hby at_308) (fun _ _ => ⟨rfl, e135, (by decide : 18 + 0 ≤ _), (by decide : 192 + 0 ≤ _)⟩)
    dsimp only [Pt.U, Pt.locs, Pt.cells, Pt.slots] at X136 l136 y136 z136 st136 hQ136
    subst l136 y136 z136
    obtain ⟨rfl, N136q, e136⟩ := hQ136
    have N136 := Fr.app N135 N136q
    refine own_by (fun _ k => st136.trans k) ?_
    have Fo136 := Fo129
    show own_End p e below _ (T136.setTop (mkF m 311 #[.val (.long q1), .second, .val (.long q2), .second, .val (.long q3), .second, .val (.long q4), .second, .val (.int p5), .val (.int ga), .val (.int gt), .val (.int gm), .val (.int gs), .val (.int ra), .val (.int rt), .val (.int rm), .val (.int rs), .val (.int f1), .val (.int f2), .val (.int f3), .val (.int f4), .val (.int (1 : Int32)), .val .null, .val v1, .val v2, .val v3, .val v4, .val (.ref b127), .val (.ref ou)] [(.int (own_sel f4 gs (300 : Int32)))]))
    refine own_by (fun _ k => XS.iload X136.here hx rfl (hb hby at_311) rfl k) ?_
    show own_End p e below _ (T136.setTop (mkF m 313 #[.val (.long q1), .second, .val (.long q2), .second, .val (.long q3), .second, .val (.long q4), .second, .val (.int p5), .val (.int ga), .val (.int gt), .val (.int gm), .val (.int gs), .val (.int ra), .val (.int rt), .val (.int rm), .val (.int rs), .val (.int f1), .val (.int f2), .val (.int f3), .val (.int f4), .val (.int (1 : Int32)), .val .null, .val v1, .val v2, .val v3, .val v4, .val (.ref b127), .val (.ref ou)] [(.int f4), (.int (own_sel f4 gs (300 : Int32)))]))
    refine own_by (fun _ k => XS.iload X136.here hx rfl (hb hby at_313) rfl k) ?_
    show own_End p e below _ (T136.setTop (mkF m 315 #[.val (.long q1), .second, .val (.long q2), .second, .val (.long q3), .second, .val (.long q4), .second, .val (.int p5), .val (.int ga), .val (.int gt), .val (.int gm), .val (.int gs), .val (.int ra), .val (.int rt), .val (.int rm), .val (.int rs), .val (.int f1), .val (.int f2), .val (.int f3), .val (.int f4), .val (.int (1 : Int32)), .val .null, .val v1, .val v2, .val v3, .val v4, .val (.ref b127), .val (.ref ou)] [(.int gs), (.int f4), (.int (own_sel f4 gs (300 : Int32)))]))
    refine own_by (fun _ k => XS.iload X136.here hx rfl (hb hby at_315) rfl k) ?_
    show own_End p e below _ (T136.setTop (mkF m 317 #[.val (.long q1), .second, .val (.long q2), .second, .val (.long q3), .second, .val (.long q4), .second, .val (.int p5), .val (.int ga), .val (.int gt), .val (.int gm), .val (.int gs), .val (.int ra), .val (.int rt), .val (.int rm), .val (.int rs), .val (.int f1), .val (.int f2), .val (.int f3), .val (.int f4), .val (.int (1 : Int32)), .val .null, .val v1, .val v2, .val v3, .val v4, .val (.ref b127), .val (.ref ou)] [(.int (1 : Int32)), (.int gs), (.int f4), (.int (own_sel f4 gs (300 : Int32)))]))
    refine own_by (fun _ k => XS.iload X136.here hx rfl (hb hby at_317) rfl k) ?_
    show own_End p e below _ (T136.setTop (mkF m 319 #[.val (.long q1), .second, .val (.long q2), .second, .val (.long q3), .second, .val (.long q4), .second, .val (.int p5), .val (.int ga), .val (.int gt), .val (.int gm), .val (.int gs), .val (.int ra), .val (.int rt), .val (.int rm), .val (.int rs), .val (.int f1), .val (.int f2), .val (.int f3), .val (.int f4), .val (.int (1 : Int32)), .val .null, .val v1, .val v2, .val v3, .val v4, .val (.ref b127), .val (.ref ou)] [(.int rs), (.int (1 : Int32)), (.int gs), (.int f4), (.int (own_sel f4 gs (300 : Int32)))]))
    refine own_by (fun _ k => XS.sipush X136.here hx rfl (hb hby at_319) k) ?_
    show own_End p e below _ (T136.setTop (mkF m 322 #[.val (.long q1), .second, .val (.long q2), .second, .val (.long q3), .second, .val (.long q4), .second, .val (.int p5), .val (.int ga), .val (.int gt), .val (.int gm), .val (.int gs), .val (.int ra), .val (.int rt), .val (.int rm), .val (.int rs), .val (.int f1), .val (.int f2), .val (.int f3), .val (.int f4), .val (.int (1 : Int32)), .val .null, .val v1, .val v2, .val v3, .val v4, .val (.ref b127), .val (.ref ou)] [(.int (300 : Int32)), (.int rs), (.int (1 : Int32)), (.int gs), (.int f4), (.int (own_sel f4 gs (300 : Int32)))]))
    obtain ⟨_, _, ⟨T137, L137, k137, n137⟩, -, X137, ⟨Lc137, hQ137, l137, y137, z137⟩, st137⟩ := Jvm.LawKit.callS X136 hx (y := (⟨"com/example/hongdae/hongdae/sale/ChangeApplyToPinLaw", "expect", "(ZIZII)I"⟩ : MethodName)) hown129 (mvT hZ129 (hw _ (List.mem_of_getElem? (i := 109) rfl))) (mvT hZ129 (hw _ (List.mem_of_getElem? (i := 110) rfl))) (mvT hZ129 (hw _ (List.mem_of_getElem? (i := 111) rfl))) (mvT hZ129 (hw _ (List.mem_of_getElem? (i := 112) rfl))) (by decide) (own_back (W := 1) (own_exp1 l Z a0 hw [] f4 gs rs (300 : Int32) T129.heap n0) hZ129 (hw _ (List.mem_of_getElem? (i := 112) rfl)) (hw _ (List.mem_of_getElem? (i := 111) rfl)) (by decide) (by decide)) (g := (mkF m 322 #[.val (.long q1), .second, .val (.long q2), .second, .val (.long q3), .second, .val (.long q4), .second, .val (.int p5), .val (.int ga), .val (.int gt), .val (.int gm), .val (.int gs), .val (.int ra), .val (.int rt), .val (.int rm), .val (.int rs), .val (.int f1), .val (.int f2), .val (.int f3), .val (.int f4), .val (.int (1 : Int32)), .val .null, .val v1, .val v2, .val v3, .val v4, .val (.ref b127), .val (.ref ou)] [(.int (300 : Int32)), (.int rs), (.int (1 : Int32)), (.int gs), (.int f4), (.int (own_sel f4 gs (300 : Int32)))])) rfl (by rw [hml]; rfl) (argsL := [(.int f4), (.int gs), (.int (1 : Int32)), (.int rs), (.int (300 : Int32))]) (rest := [(.int (own_sel f4 gs (300 : Int32)))]) (lenOf own_pd9 rfl) rfl (by show 2 * 0 + _ ≤ _; exact Nat.le_of_eq rfl) (hb hby at_322) (fun _ _ => ⟨rfl, e136, (by decide : 18 + 0 ≤ _), (by decide : 192 + 0 ≤ _)⟩)
    dsimp only [Pt.U, Pt.locs, Pt.cells, Pt.slots] at X137 l137 y137 z137 st137 hQ137
    subst l137 y137 z137
    obtain ⟨rfl, N137q, e137⟩ := hQ137
    have N137 := Fr.app N136 N137q
    refine own_by st137 ?_
    show own_End p e below _ (T137.setTop (mkF m 325 #[.val (.long q1), .second, .val (.long q2), .second, .val (.long q3), .second, .val (.long q4), .second, .val (.int p5), .val (.int ga), .val (.int gt), .val (.int gm), .val (.int gs), .val (.int ra), .val (.int rt), .val (.int rm), .val (.int rs), .val (.int f1), .val (.int f2), .val (.int f3), .val (.int f4), .val (.int (1 : Int32)), .val .null, .val v1, .val v2, .val v3, .val v4, .val (.ref b127), .val (.ref ou)] [(.int (own_sel f4 gs (300 : Int32))), (.int (own_sel f4 gs (300 : Int32)))]))
    refine own_by (fun _ k => XS.icmpNo X137.here hx rfl (hb hby at_325) rfl (teq rfl).2 k) ?_
    show own_End p e below _ (T137.setTop (mkF m 328 #[.val (.long q1), .second, .val (.long q2), .second, .val (.long q3), .second, .val (.long q4), .second, .val (.int p5), .val (.int ga), .val (.int gt), .val (.int gm), .val (.int gs), .val (.int ra), .val (.int rt), .val (.int rm), .val (.int rs), .val (.int f1), .val (.int f2), .val (.int f3), .val (.int f4), .val (.int (1 : Int32)), .val .null, .val v1, .val v2, .val v3, .val v4, .val (.ref b127), .val (.ref ou)] []))
    refine own_by (fun _ k => XS.iconst X137.here hx rfl (hb hby at_328) k) ?_
    show own_End p e below _ (T137.setTop (mkF m 329 #[.val (.long q1), .second, .val (.long q2), .second, .val (.long q3), .second, .val (.long q4), .second, .val (.int p5), .val (.int ga), .val (.int gt), .val (.int gm), .val (.int gs), .val (.int ra), .val (.int rt), .val (.int rm), .val (.int rs), .val (.int f1), .val (.int f2), .val (.int f3), .val (.int f4), .val (.int (1 : Int32)), .val .null, .val v1, .val v2, .val v3, .val v4, .val (.ref b127), .val (.ref ou)] [(.int (1 : Int32))]))
    refine own_by (fun _ k => XS.goto X137.here hx rfl (pc0 := 329) (pc' := 333) rfl (hb hby at_329) (by decide) (by decide) k) ?_
    show own_End p e below _ (T137.setTop (mkF m 333 #[.val (.long q1), .second, .val (.long q2), .second, .val (.long q3), .second, .val (.long q4), .second, .val (.int p5), .val (.int ga), .val (.int gt), .val (.int gm), .val (.int gs), .val (.int ra), .val (.int rt), .val (.int rm), .val (.int rs), .val (.int f1), .val (.int f2), .val (.int f3), .val (.int f4), .val (.int (1 : Int32)), .val .null, .val v1, .val v2, .val v3, .val v4, .val (.ref b127), .val (.ref ou)] [(.int (1 : Int32))]))
    obtain ⟨fs, hr, hrun, hended, hW⟩ := X137.leaveW (v := (some (.int (1 : Int32)))) hS129 (by rw [e137]; exact (Nat.le_refl _)) (fun h => by rw [Bd.returns] at h; cases h)
    refine ⟨_, _, retN X137 hx (t := .boolean) Bd.returns (by simp) (hb hby at_333) hr, hrun, hended, _, _, rfl, ?_, own_rw hW (by decide) (by decide)⟩
    have hfin : (T137.setFrames fs).heap = T129.heap := e137
    exact ⟨rfl, N137⟩
set_option maxRecDepth 65536 in
set_option maxHeartbeats 40000000 in
theorem comes_1 {Post : Tables → Env → Array Value → State → Outcome → State → Prop} (hpost : ∀ tb e args s v u, (limb_1_1.after args s (.returned v) u = true ∧ limb_1_2.after args s (.returned v) u = true ∧ True) → ReturnedEndW s (.returned v) u (Jvm.fieldLocs frame_1_writes args s ++ Jvm.arrayLocs frame_1_arrays args s ++ Jvm.staticLocs frame_1_statics s) 32 1152 → Post tb e args s (.returned v) u) :
    ArmFor flags0 classFile x code maxLocals ret World_1 tables_1 room_1 Calls_1 rest_1 Pre_1 Post := by
  intro l hfl _ _ p e ha hc hk s m args below hf hA hF happ hP
  obtain ⟨hcalls, hrest, hpre⟩ := hP
  obtain ⟨-, -, -, hnamed, -, -, -, hat⟩ := (Spec.applies_iff hf).mp happ
  obtain ⟨hg, hn⟩ := and_e (Cond.before_iff.mp (show (Jvm.Cond.and given_1 narrow_1).before args s = true from hpre))
  obtain ⟨g0, g0'⟩ := and_e hg
  obtain ⟨g1, g1'⟩ := and_e g0'
  obtain ⟨g2, g2'⟩ := and_e g1'
  obtain ⟨g3, g3'⟩ := and_e g2'
  obtain ⟨g4, g4'⟩ := and_e g3'
  obtain ⟨w0, w1, w2, w3, w4, rfl⟩ : ∃ w0 w1 w2 w3 w4 : Value, args = #[w0, w1, w2, w3, w4] := by
    have hs : args.size = 5 := by simpa [Cond.value, given_1] using g0
    obtain ⟨L⟩ := args
    match L, hs with
    | [w0, w1, w2, w3, w4], _ => exact ⟨w0, w1, w2, w3, w4, rfl⟩
  have hw := fun d (hd : d ∈ tables_1) => atoms_spec (ws := Jvm.Cond.code x code maxLocals ret :: tables_1) hat d (List.mem_cons_of_mem _ hd)
  have hfit : Fit s := fun {y c} hc i hi => by
    obtain ⟨ha, rfl⟩ := Array.getElem?_eq_some_iff.mp hc
    have q := List.all_eq_true.mp ((Array.all_eq_true_iff_forall_mem.mp hF) _ (Array.getElem_mem ha)) i (List.mem_range.mpr hi)
    simpa [Array.getElem?_eq_getElem hi] using q
  obtain ⟨hsets, hown0⟩ := atoms_of _ (rest_1_c_eq ▸ (show rest_1_c.before _ s = true from hrest))
  have hr0 := Cond.before_iff.mp hown0
  obtain ⟨i0, ei0⟩ := isL_v g1
  obtain rfl : w0 = (.long i0) := Option.some.inj ei0
  obtain ⟨i1, ei1⟩ := isL_v g2
  obtain rfl : w1 = (.long i1) := Option.some.inj ei1
  obtain ⟨i2, ei2⟩ := isL_v g3
  obtain rfl : w2 = (.long i2) := Option.some.inj ei2
  obtain ⟨i3, ei3⟩ := isL_v g4
  obtain rfl : w3 = (.long i3) := Option.some.inj ei3
  obtain ⟨i4, ei4⟩ := is_v g4'
  obtain rfl : w4 = (.int i4) := Option.some.inj ei4
  obtain ⟨q0, hn⟩ := and_e hn
  obtain ⟨q1, hn⟩ := and_e hn
  obtain ⟨q2, hn⟩ := and_e hn
  obtain ⟨q3, hn⟩ := and_e hn
  obtain ⟨wD, ev_wD⟩ := exa_v q0
  have S_wD := Sta.start ev_wD (Or.inr ⟨(hw _ (List.mem_of_getElem? (i := 2) rfl)), (hw _ (List.mem_of_getElem? (i := 117) rfl))⟩)
  have E_wD := Exa.start ev_wD q0
  have f_admitPerTick_wD := own_intEq q1
  rw [fld_at ev_wD] at f_admitPerTick_wD
  have F_admitPerTick_wD := Fld.start f_admitPerTick_wD
  have f_tickSeconds_wD := own_intEq q2
  rw [fld_at ev_wD] at f_tickSeconds_wD
  have F_tickSeconds_wD := Fld.start f_tickSeconds_wD
  have f_maxActive_wD := own_intEq q3
  rw [fld_at ev_wD] at f_maxActive_wD
  have F_maxActive_wD := Fld.start f_maxActive_wD
  have f_activeSeconds_wD := own_intEq hn
  rw [fld_at ev_wD] at f_activeSeconds_wD
  have F_activeSeconds_wD := Fld.start f_activeSeconds_wD
  have evh := own_intEq (Cond.before_iff.mp (hsets _ (List.mem_of_getElem? (i := 3) rfl)))
  have Sh := Sta.start evh (Or.inl (hsets _ (List.mem_of_getElem? (i := 1) rfl)))
  obtain ⟨ca, evc⟩ := arr_v (Cond.before_iff.mp (hsets _ (List.mem_of_getElem? (i := 4) rfl)))
  have Sc := Sta.start evc (Or.inr ⟨(hw _ (List.mem_of_getElem? (i := 27) rfl)), hsets _ (List.mem_of_getElem? (i := 2) rfl)⟩)
  obtain ⟨cl, Ar⟩ := Arr.start evc (Cond.before_iff.mp (hsets _ (List.mem_of_getElem? (i := 4) rfl)))
  have evl := own_intEq (Cond.before_iff.mp (hsets _ (List.mem_of_getElem? (i := 6) rfl)))
  have hC : own_IC s := by
    refine ⟨ca, cl, Sh, Sc, ?_⟩
    have hsm : cl.slots.size < 2 ^ 31 ∧ cl.slots.size.toInt32 = 256 := own_len evc (Ar.fin (Vm.Alike.refl _)) evl
    refine Bxs.start (t := (Jvm.Term.static "java/lang/Integer$IntegerCache" "cache" "[Ljava/lang/Integer;")) (F := Jvm.Term.sub (Jvm.Term.index (0 : Nat)) (Jvm.Term.int (128 : Int32))) (fun idx => own_idx evc idx) Ar hsm.1 hsm.2 (by decide) (Cond.before_iff.mp (hsets _ (List.mem_of_getElem? (i := 7) rfl))) (fun X j hj h => eqv_i (own_sub hj) h)
  obtain ⟨n, o, h1, h2, h3, _, L, rfl, ⟨rfl, N⟩, hq⟩ := own_law l s _ hw tables_1 i0 i1 i2 i3 i4 wD s.heap s.heap.size (Nat.le_refl _) ⟨Nat.le_refl _, fun _ _ q => q⟩ hC S_wD ⟨E_wD, F_admitPerTick_wD, F_tickSeconds_wD, F_maxActive_wD, F_activeSeconds_wD⟩ p e ha hc hk s m _ below hf ((Spec.applies_iff_loose hf).mp happ).1 ⟨rfl, State.Warmed39.refl s, rfl⟩ trivial
  refine ⟨n, _, h1, h2, h3, hpost _ _ _ _ _ _ ⟨Cond.after_iff.mpr rfl, Cond.after_iff.mpr (eq_i res_at (Term.int_eval (1)) rfl), trivial⟩ ⟨hq.1, hq.2.1, hq.2.2.1, (hq.2.2.2.sift fun y hy => Or.inr (N y hy)).mono (by decide) (by decide)⟩⟩
theorem main_1_1 : Claimed_1_1 := comes_1 fun _ _ _ _ _ _ h hF => ⟨h.1, hF⟩
theorem main_1_2 : Claimed_1_2 := comes_1 fun _ _ _ _ _ _ h hF => ⟨h.2.1, hF⟩
end Jvm.Pilot.@@N@@
namespace Jvm.Pilot.@@N@@
open Jvm Jvm.ClassFile Sem Op Lib Jvm.Free Jvm.Stand Jvm.Pilot.@@N@@.Jvm.D
/-! MADE BY PROGRAM (witnessworld.py) out of the Statement's table words and the real class files: 21 classes; the members and pool entries that the words name. The judged class is class 1, her method 1. -/
namespace start1
open Jvm.ClassFile
def u (s : String) : CpInfo := .utf8 (stringToUtf16 s)
/-- a pool by its gaps: so many unusable entries, then the entry; so many at the end -/
def gap : Nat → List CpInfo → List CpInfo
  | 0, r => r
  | n + 1, r => .unusable :: gap n r
def poolList (es : List (Nat × CpInfo)) (last : Nat) : List CpInfo := es.foldr (fun e r => gap e.1 (e.2 :: r)) (gap last [])
def pool (es : List (Nat × CpInfo)) (last : Nat) : Array CpInfo := ⟨poolList es last⟩
def fileOf (pool : Array CpInfo) (this : Nat) (attrs : Array Attribute := #[]) (ms : Array MethodInfo := #[]) (fl : Nat := 33) (sup : Nat := 0) (ifs : Array Nat := #[]) (fds : Array FieldInfo := #[]) : ClassFile where
  minorVersion := 0
  majorVersion := 65
  constantPool := pool
  accessFlags := fl
  thisClass := this
  superClass := sup
  interfaces := ifs
  fields := fds
  methods := ms
  attributes := attrs
def plain (name : String) (sup : Option ClassId) : Class where
  name := name
  kind := .ordinary
  loader := none
  accessFlags := 33
  super := sup
  interfaces := #[]
  cf := none
  fields := #[]
  methods := #[]
  instanceTypes := #[]
  staticTypes := #[]
  resolved := #[]
  callSites := []
  init := .initialized
  statics := none
  mirror := none

def pool0 : Array CpInfo := pool [(5, u "<init>"), (0, u "()V"), (1, .class_ 10), (1, u "java/lang/Object")] 113

def k0c0 : Code := { maxStack := 0, maxLocals := 1, code := object_method_1_code, exceptionTable := #[], attributes := #[] }
def k0m0 : Method := { name := "<init>", desc := "()V", sig := { parameters := [], returnType := none }, accessFlags := 1, code := some k0c0 }
/-- java/lang/Object -/
def k0 : Class := { plain "java/lang/Object" none with
  accessFlags := 33
  interfaces := #[]
  cf := some (fileOf pool0 8 #[] #[{ accessFlags := 1, nameIndex := 5, descriptorIndex := 6, attributes := #[] }] 33 0 #[] #[])
  fields := #[]
  methods := #[k0m0]
  instanceTypes := #[]
  staticTypes := #[]
  resolved := Array.replicate 124 none
  statics := none }

def pool1 : Array CpInfo := pool [(2, .class_ 4), (1, u "java/lang/Object"), (0, u "<init>"), (0, u "()V"), (0, .class_ 8), (0, u "com/example/hongdae/hongdae/sale/WaitingRoom"), (0, .methodref 7 10), (0, .nameAndType 5 11), (0, u "(IIII)V"), (0, .methodref 13 14), (0, .class_ 15), (0, .nameAndType 16 17), (0, u "java/lang/Integer"), (0, u "valueOf"), (0, u "(I)Ljava/lang/Integer;"), (0, .class_ 19), (0, u "com/example/hongdae/hongdae/sale/WaitingRoom$Change"), (0, .methodref 18 21), (0, .nameAndType 5 22), (0, u "(Ljava/lang/Integer;Ljava/lang/Integer;Ljava/lang/Integer;Ljava/lang/Integer;)V"), (0, .methodref 18 24), (0, .nameAndType 25 26), (0, u "applyTo"), (0, u "(Lcom/example/hongdae/hongdae/sale/WaitingRoom;)Lcom/example/hongdae/hongdae/sale/WaitingRoom;"), (0, .methodref 7 28), (0, .nameAndType 29 30), (0, u "admitPerTick"), (0, u "()I"), (0, .methodref 32 33), (0, .class_ 34), (0, .nameAndType 35 36), (0, u "com/example/hongdae/hongdae/sale/ChangeApplyToPinLaw"), (0, u "expect"), (0, u "(ZIZII)I"), (0, .methodref 7 38), (0, .nameAndType 39 30), (0, u "tickSeconds"), (0, .methodref 7 41), (0, .nameAndType 42 30), (0, u "maxActive"), (0, .methodref 7 44), (0, .nameAndType 45 30), (0, u "activeSeconds"), (2, u "law"), (0, u "(JJJJI)Z")] 5

def k1m0 : Method := { name := "<init>", desc := "()V", sig := { parameters := [], returnType := none }, accessFlags := 1, code := none }
def k1c1 : Code := { maxStack := 6, maxLocals := 29, code := code, exceptionTable := #[], attributes := #[] }
def k1m1 : Method := { name := "law", desc := "(JJJJI)Z", sig := { parameters := [.long, .long, .long, .long, .int], returnType := some .boolean }, accessFlags := 9, code := some k1c1 }
def k1c2 : Code := { maxStack := 1, maxLocals := 5, code := method_3_code, exceptionTable := #[], attributes := #[] }
def k1m2 : Method := { name := "expect", desc := "(ZIZII)I", sig := { parameters := [.boolean, .int, .boolean, .int, .int], returnType := some .int }, accessFlags := 10, code := some k1c2 }
/-- com/example/hongdae/hongdae/sale/ChangeApplyToPinLaw -/
def k1 : Class := { plain "com/example/hongdae/hongdae/sale/ChangeApplyToPinLaw" (some 0) with
  accessFlags := 49
  interfaces := #[]
  cf := some (fileOf pool1 32 #[] #[{ accessFlags := 1, nameIndex := 5, descriptorIndex := 6, attributes := #[] }, { accessFlags := 9, nameIndex := 48, descriptorIndex := 49, attributes := #[] }, { accessFlags := 10, nameIndex := 35, descriptorIndex := 36, attributes := #[] }] 49 2 #[] #[])
  fields := #[]
  methods := #[k1m0, k1m1, k1m2]
  instanceTypes := #[]
  staticTypes := #[]
  resolved := Array.replicate 55 none
  statics := none }

def pool2 : Array CpInfo := pool [(1, .methodref 2 3), (0, .class_ 4), (0, .nameAndType 5 6), (0, u "java/lang/Object"), (0, u "<init>"), (0, u "()V"), (0, .class_ 8), (0, u "java/lang/Record")] 13

def k2c0 : Code := { maxStack := 1, maxLocals := 1, code := jdk_30_method_1_code, exceptionTable := #[], attributes := #[] }
def k2m0 : Method := { name := "<init>", desc := "()V", sig := { parameters := [], returnType := none }, accessFlags := 4, code := some k2c0 }
/-- java/lang/Record -/
def k2 : Class := { plain "java/lang/Record" (some 0) with
  accessFlags := 1057
  interfaces := #[]
  cf := some (fileOf pool2 7 #[] #[{ accessFlags := 4, nameIndex := 5, descriptorIndex := 6, attributes := #[] }] 1057 2 #[] #[])
  fields := #[]
  methods := #[k2m0]
  instanceTypes := #[]
  staticTypes := #[]
  resolved := Array.replicate 22 none
  statics := none }

def pool3 : Array CpInfo := pool [(1, .methodref 2 3), (0, .class_ 4), (0, .nameAndType 5 6), (0, u "java/lang/Record"), (0, u "<init>"), (0, u "()V"), (0, .fieldref 8 9), (0, .class_ 10), (0, .nameAndType 11 12), (0, u "com/example/hongdae/hongdae/sale/WaitingRoom"), (0, u "admitPerTick"), (0, u "I"), (0, .fieldref 8 14), (0, .nameAndType 15 12), (0, u "tickSeconds"), (0, .fieldref 8 17), (0, .nameAndType 18 12), (0, u "maxActive"), (0, .fieldref 8 20), (0, .nameAndType 21 12), (0, u "activeSeconds"), (14, u "(IIII)V"), (2, u "DEFAULT"), (0, u "Lcom/example/hongdae/hongdae/sale/WaitingRoom;"), (0, u "DEFAULT_ADMIT_PER_TICK"), (2, u "MIN_ADMIT_PER_TICK"), (1, u "MAX_ADMIT_PER_TICK"), (1, u "DEFAULT_TICK_SECONDS"), (1, u "MIN_TICK_SECONDS"), (0, u "MAX_TICK_SECONDS"), (1, u "NO_CAP"), (1, u "MAX_CAP"), (1, u "DEFAULT_ACTIVE_SECONDS"), (1, u "MIN_ACTIVE_SECONDS"), (0, u "MAX_ACTIVE_SECONDS"), (5, u "()I"), (5, .class_ 73), (0, u "com/example/hongdae/hongdae/sale/WaitingRoom$Change")] 22

def k3c0 : Code := { maxStack := 2, maxLocals := 5, code := prog_17_method_1_code, exceptionTable := #[], attributes := #[] }
def k3m0 : Method := { name := "<init>", desc := "(IIII)V", sig := { parameters := [.int, .int, .int, .int], returnType := none }, accessFlags := 1, code := some k3c0 }
def k3c1 : Code := { maxStack := 1, maxLocals := 1, code := prog_17_method_5_code, exceptionTable := #[], attributes := #[] }
def k3m1 : Method := { name := "admitPerTick", desc := "()I", sig := { parameters := [], returnType := some .int }, accessFlags := 1, code := some k3c1 }
def k3c2 : Code := { maxStack := 1, maxLocals := 1, code := prog_17_method_6_code, exceptionTable := #[], attributes := #[] }
def k3m2 : Method := { name := "tickSeconds", desc := "()I", sig := { parameters := [], returnType := some .int }, accessFlags := 1, code := some k3c2 }
def k3c3 : Code := { maxStack := 1, maxLocals := 1, code := prog_17_method_7_code, exceptionTable := #[], attributes := #[] }
def k3m3 : Method := { name := "maxActive", desc := "()I", sig := { parameters := [], returnType := some .int }, accessFlags := 1, code := some k3c3 }
def k3c4 : Code := { maxStack := 1, maxLocals := 1, code := prog_17_method_8_code, exceptionTable := #[], attributes := #[] }
def k3m4 : Method := { name := "activeSeconds", desc := "()I", sig := { parameters := [], returnType := some .int }, accessFlags := 1, code := some k3c4 }
/-- com/example/hongdae/hongdae/sale/WaitingRoom -/
def k3 : Class := { plain "com/example/hongdae/hongdae/sale/WaitingRoom" (some 2) with
  accessFlags := 49
  interfaces := #[]
  cf := some (fileOf pool3 8 #[.nestMembers #[72]] #[{ accessFlags := 1, nameIndex := 5, descriptorIndex := 36, attributes := #[] }, { accessFlags := 1, nameIndex := 11, descriptorIndex := 66, attributes := #[] }, { accessFlags := 1, nameIndex := 15, descriptorIndex := 66, attributes := #[] }, { accessFlags := 1, nameIndex := 18, descriptorIndex := 66, attributes := #[] }, { accessFlags := 1, nameIndex := 21, descriptorIndex := 66, attributes := #[] }] 49 2 #[] #[{ accessFlags := 18, nameIndex := 11, descriptorIndex := 12, attributes := #[] }, { accessFlags := 18, nameIndex := 15, descriptorIndex := 12, attributes := #[] }, { accessFlags := 18, nameIndex := 18, descriptorIndex := 12, attributes := #[] }, { accessFlags := 18, nameIndex := 21, descriptorIndex := 12, attributes := #[] }, { accessFlags := 25, nameIndex := 41, descriptorIndex := 12, attributes := #[] }, { accessFlags := 25, nameIndex := 44, descriptorIndex := 12, attributes := #[] }, { accessFlags := 25, nameIndex := 46, descriptorIndex := 12, attributes := #[] }, { accessFlags := 25, nameIndex := 48, descriptorIndex := 12, attributes := #[] }, { accessFlags := 25, nameIndex := 50, descriptorIndex := 12, attributes := #[] }, { accessFlags := 25, nameIndex := 51, descriptorIndex := 12, attributes := #[] }, { accessFlags := 25, nameIndex := 53, descriptorIndex := 12, attributes := #[] }, { accessFlags := 25, nameIndex := 55, descriptorIndex := 12, attributes := #[] }, { accessFlags := 25, nameIndex := 57, descriptorIndex := 12, attributes := #[] }, { accessFlags := 25, nameIndex := 59, descriptorIndex := 12, attributes := #[] }, { accessFlags := 25, nameIndex := 60, descriptorIndex := 12, attributes := #[] }, { accessFlags := 25, nameIndex := 39, descriptorIndex := 40, attributes := #[] }])
  fields := #[{ name := "admitPerTick", type := .int, accessFlags := 18, slot := 0, constantValue := 0 }, { name := "tickSeconds", type := .int, accessFlags := 18, slot := 1, constantValue := 0 }, { name := "maxActive", type := .int, accessFlags := 18, slot := 2, constantValue := 0 }, { name := "activeSeconds", type := .int, accessFlags := 18, slot := 3, constantValue := 0 }, { name := "DEFAULT_ADMIT_PER_TICK", type := .int, accessFlags := 25, slot := 0, constantValue := 0 }, { name := "MIN_ADMIT_PER_TICK", type := .int, accessFlags := 25, slot := 1, constantValue := 0 }, { name := "MAX_ADMIT_PER_TICK", type := .int, accessFlags := 25, slot := 2, constantValue := 0 }, { name := "DEFAULT_TICK_SECONDS", type := .int, accessFlags := 25, slot := 3, constantValue := 0 }, { name := "MIN_TICK_SECONDS", type := .int, accessFlags := 25, slot := 4, constantValue := 0 }, { name := "MAX_TICK_SECONDS", type := .int, accessFlags := 25, slot := 5, constantValue := 0 }, { name := "NO_CAP", type := .int, accessFlags := 25, slot := 6, constantValue := 0 }, { name := "MAX_CAP", type := .int, accessFlags := 25, slot := 7, constantValue := 0 }, { name := "DEFAULT_ACTIVE_SECONDS", type := .int, accessFlags := 25, slot := 8, constantValue := 0 }, { name := "MIN_ACTIVE_SECONDS", type := .int, accessFlags := 25, slot := 9, constantValue := 0 }, { name := "MAX_ACTIVE_SECONDS", type := .int, accessFlags := 25, slot := 10, constantValue := 0 }, { name := "DEFAULT", type := (.object "com/example/hongdae/hongdae/sale/WaitingRoom"), accessFlags := 25, slot := 11, constantValue := 0 }]
  methods := #[k3m0, k3m1, k3m2, k3m3, k3m4]
  instanceTypes := #[.int, .int, .int, .int]
  staticTypes := #[.int, .int, .int, .int, .int, .int, .int, .int, .int, .int, .int, (.object "com/example/hongdae/hongdae/sale/WaitingRoom")]
  resolved := Array.replicate 96 none
  statics := some 0 }

def pool4 : Array CpInfo := pool [(1, .class_ 2), (0, u "java/io/Serializable"), (0, .class_ 4), (0, u "java/lang/Object")] 2

/-- java/io/Serializable -/
def k4 : Class := { plain "java/io/Serializable" (some 0) with
  accessFlags := 1537
  interfaces := #[]
  cf := some (fileOf pool4 1 #[] #[] 1537 3 #[] #[])
  fields := #[]
  methods := #[]
  instanceTypes := #[]
  staticTypes := #[]
  resolved := Array.replicate 7 none
  statics := none }

def pool5 : Array CpInfo := pool [(1, .methodref 2 3), (0, .class_ 4), (0, .nameAndType 5 6), (0, u "java/lang/Object"), (0, u "<init>"), (0, u "()V"), (1, .class_ 10), (1, u "java/lang/Number"), (2, .class_ 14), (0, u "java/io/Serializable"), (0, u "serialVersionUID"), (0, u "J")] 20

def k5c0 : Code := { maxStack := 1, maxLocals := 1, code := jdk_18_method_1_code, exceptionTable := #[], attributes := #[] }
def k5m0 : Method := { name := "<init>", desc := "()V", sig := { parameters := [], returnType := none }, accessFlags := 1, code := some k5c0 }
/-- java/lang/Number -/
def k5 : Class := { plain "java/lang/Number" (some 0) with
  accessFlags := 1057
  interfaces := #[4]
  cf := some (fileOf pool5 8 #[] #[{ accessFlags := 1, nameIndex := 5, descriptorIndex := 6, attributes := #[] }] 1057 2 #[13] #[{ accessFlags := 26, nameIndex := 15, descriptorIndex := 16, attributes := #[] }])
  fields := #[{ name := "serialVersionUID", type := .long, accessFlags := 26, slot := 0, constantValue := 0 }]
  methods := #[k5m0]
  instanceTypes := #[]
  staticTypes := #[.long]
  resolved := Array.replicate 37 none
  statics := none }

def pool6 : Array CpInfo := pool [(1, .class_ 2), (0, u "java/lang/Comparable"), (0, .class_ 4), (0, u "java/lang/Object")] 7

/-- java/lang/Comparable -/
def k6 : Class := { plain "java/lang/Comparable" (some 0) with
  accessFlags := 1537
  interfaces := #[]
  cf := some (fileOf pool6 1 #[] #[] 1537 3 #[] #[])
  fields := #[]
  methods := #[]
  instanceTypes := #[]
  staticTypes := #[]
  resolved := Array.replicate 12 none
  statics := none }

def pool7 : Array CpInfo := pool [(1, .class_ 2), (0, u "java/lang/constant/Constable"), (0, .class_ 4), (0, u "java/lang/Object")] 6

/-- java/lang/constant/Constable -/
def k7 : Class := { plain "java/lang/constant/Constable" (some 0) with
  accessFlags := 1537
  interfaces := #[]
  cf := some (fileOf pool7 1 #[] #[] 1537 3 #[] #[])
  fields := #[]
  methods := #[]
  instanceTypes := #[]
  staticTypes := #[]
  resolved := Array.replicate 11 none
  statics := none }

def pool8 : Array CpInfo := pool [(1, .class_ 2), (0, u "java/lang/constant/ConstantDesc"), (0, .class_ 4), (0, u "java/lang/Object")] 32

/-- java/lang/constant/ConstantDesc -/
def k8 : Class := { plain "java/lang/constant/ConstantDesc" (some 0) with
  accessFlags := 1537
  interfaces := #[]
  cf := some (fileOf pool8 1 #[] #[] 1537 3 #[] #[])
  fields := #[]
  methods := #[]
  instanceTypes := #[]
  staticTypes := #[]
  resolved := Array.replicate 37 none
  statics := none }

def pool9 : Array CpInfo := pool [(1, .class_ 2), (0, u "java/lang/Integer"), (16, u "digits"), (0, u "[C"), (46, u "<init>"), (17, u "DigitOnes"), (0, u "[B"), (2, u "DigitTens"), (10, .nameAndType 67 101), (0, u "()V"), (19, u "()I"), (65, u "valueOf"), (0, u "(I)Ljava/lang/Integer;"), (0, .class_ 190), (0, u "java/lang/Integer$IntegerCache"), (0, .fieldref 189 192), (0, .nameAndType 193 194), (0, u "high"), (0, u "I"), (0, .fieldref 189 196), (0, .nameAndType 197 198), (0, u "cache"), (0, u "[Ljava/lang/Integer;"), (0, .methodref 1 200), (0, .nameAndType 67 201), (0, u "(I)V"), (0, .methodref 203 100), (0, .class_ 204), (0, u "java/lang/Number"), (0, .fieldref 1 206), (0, .nameAndType 207 194), (0, u "value"), (5, u "intValue"), (88, u "TYPE"), (0, u "Ljava/lang/Class;"), (0, .class_ 305), (0, u "java/lang/Comparable"), (0, .class_ 307), (0, u "java/lang/constant/Constable"), (0, .class_ 309), (0, u "java/lang/constant/ConstantDesc"), (0, u "MIN_VALUE"), (1, u "MAX_VALUE"), (3, u "SIZE"), (1, u "BYTES"), (1, u "serialVersionUID"), (0, u "J")] 131

def k9c0 : Code := { maxStack := 3, maxLocals := 1, code := jdk_33_method_22_code, exceptionTable := #[], attributes := #[] }
def k9m0 : Method := { name := "valueOf", desc := "(I)Ljava/lang/Integer;", sig := { parameters := [.int], returnType := some (.object "java/lang/Integer") }, accessFlags := 9, code := some k9c0 }
def k9c1 : Code := { maxStack := 2, maxLocals := 2, code := jdk_33_method_23_code, exceptionTable := #[], attributes := #[] }
def k9m1 : Method := { name := "<init>", desc := "(I)V", sig := { parameters := [.int], returnType := none }, accessFlags := 1, code := some k9c1 }
def k9c2 : Code := { maxStack := 1, maxLocals := 1, code := jdk_33_method_27_code, exceptionTable := #[], attributes := #[] }
def k9m2 : Method := { name := "intValue", desc := "()I", sig := { parameters := [], returnType := some .int }, accessFlags := 1, code := some k9c2 }
/-- java/lang/Integer -/
def k9 : Class := { plain "java/lang/Integer" (some 5) with
  accessFlags := 49
  interfaces := #[6, 7, 8]
  cf := some (fileOf pool9 1 #[.nestMembers #[189]] #[{ accessFlags := 9, nameIndex := 187, descriptorIndex := 188, attributes := #[] }, { accessFlags := 1, nameIndex := 67, descriptorIndex := 201, attributes := #[] }, { accessFlags := 1, nameIndex := 213, descriptorIndex := 121, attributes := #[] }] 49 203 #[304, 306, 308] #[{ accessFlags := 25, nameIndex := 310, descriptorIndex := 194, attributes := #[] }, { accessFlags := 25, nameIndex := 312, descriptorIndex := 194, attributes := #[] }, { accessFlags := 25, nameIndex := 302, descriptorIndex := 303, attributes := #[] }, { accessFlags := 24, nameIndex := 19, descriptorIndex := 20, attributes := #[] }, { accessFlags := 24, nameIndex := 89, descriptorIndex := 86, attributes := #[] }, { accessFlags := 24, nameIndex := 85, descriptorIndex := 86, attributes := #[] }, { accessFlags := 18, nameIndex := 207, descriptorIndex := 194, attributes := #[] }, { accessFlags := 25, nameIndex := 316, descriptorIndex := 194, attributes := #[] }, { accessFlags := 25, nameIndex := 318, descriptorIndex := 194, attributes := #[] }, { accessFlags := 26, nameIndex := 320, descriptorIndex := 321, attributes := #[] }])
  fields := #[{ name := "MIN_VALUE", type := .int, accessFlags := 25, slot := 0, constantValue := 0 }, { name := "MAX_VALUE", type := .int, accessFlags := 25, slot := 1, constantValue := 0 }, { name := "TYPE", type := (.object "java/lang/Class"), accessFlags := 25, slot := 2, constantValue := 0 }, { name := "digits", type := (.array .char), accessFlags := 24, slot := 3, constantValue := 0 }, { name := "DigitTens", type := (.array .byte), accessFlags := 24, slot := 4, constantValue := 0 }, { name := "DigitOnes", type := (.array .byte), accessFlags := 24, slot := 5, constantValue := 0 }, { name := "value", type := .int, accessFlags := 18, slot := 0, constantValue := 0 }, { name := "SIZE", type := .int, accessFlags := 25, slot := 6, constantValue := 0 }, { name := "BYTES", type := .int, accessFlags := 25, slot := 7, constantValue := 0 }, { name := "serialVersionUID", type := .long, accessFlags := 26, slot := 8, constantValue := 0 }]
  methods := #[k9m0, k9m1, k9m2]
  instanceTypes := #[.int]
  staticTypes := #[.int, .int, (.object "java/lang/Class"), (.array .char), (.array .byte), (.array .byte), .int, .int, .long]
  resolved := Array.replicate 453 none
  statics := none }

def pool10 : Array CpInfo := pool [(2, .class_ 4), (1, u "java/lang/Object"), (0, u "<init>"), (0, u "()V"), (0, .class_ 8), (0, u "java/lang/Integer"), (7, .class_ 18), (1, u "java/lang/Integer$IntegerCache"), (0, u "$assertionsDisabled"), (0, u "Z"), (26, u "high"), (0, u "I"), (8, u "archivedCache"), (0, u "[Ljava/lang/Integer;"), (12, u "cache"), (0, u "low")] 27

def k10m0 : Method := { name := "<init>", desc := "()V", sig := { parameters := [], returnType := none }, accessFlags := 2, code := none }
/-- java/lang/Integer$IntegerCache -/
def k10 : Class := { plain "java/lang/Integer$IntegerCache" (some 0) with
  accessFlags := 48
  interfaces := #[]
  cf := some (fileOf pool10 16 #[.nestHost 7] #[{ accessFlags := 2, nameIndex := 5, descriptorIndex := 6, attributes := #[] }] 48 2 #[] #[{ accessFlags := 24, nameIndex := 72, descriptorIndex := 48, attributes := #[] }, { accessFlags := 24, nameIndex := 47, descriptorIndex := 48, attributes := #[] }, { accessFlags := 24, nameIndex := 71, descriptorIndex := 58, attributes := #[] }, { accessFlags := 8, nameIndex := 57, descriptorIndex := 58, attributes := #[] }, { accessFlags := 4120, nameIndex := 19, descriptorIndex := 20, attributes := #[] }])
  fields := #[{ name := "low", type := .int, accessFlags := 24, slot := 0, constantValue := 0 }, { name := "high", type := .int, accessFlags := 24, slot := 1, constantValue := 0 }, { name := "cache", type := (.array (.object "java/lang/Integer")), accessFlags := 24, slot := 2, constantValue := 0 }, { name := "archivedCache", type := (.array (.object "java/lang/Integer")), accessFlags := 8, slot := 3, constantValue := 0 }, { name := "$assertionsDisabled", type := .boolean, accessFlags := 4120, slot := 4, constantValue := 0 }]
  methods := #[k10m0]
  instanceTypes := #[]
  staticTypes := #[.int, .int, (.array (.object "java/lang/Integer")), (.array (.object "java/lang/Integer")), .boolean]
  resolved := Array.replicate 100 none
  statics := some 1 }

def pool11 : Array CpInfo := pool [(1, .methodref 2 3), (0, .class_ 4), (0, .nameAndType 5 6), (0, u "java/lang/Record"), (0, u "<init>"), (0, u "()V"), (0, .fieldref 8 9), (0, .class_ 10), (0, .nameAndType 11 12), (0, u "com/example/hongdae/hongdae/sale/WaitingRoom$Change"), (0, u "admitPerTick"), (0, u "Ljava/lang/Integer;"), (0, .fieldref 8 14), (0, .nameAndType 15 12), (0, u "tickSeconds"), (0, .fieldref 8 17), (0, .nameAndType 18 12), (0, u "maxActive"), (0, .fieldref 8 20), (0, .nameAndType 21 12), (0, u "activeSeconds"), (0, .fieldref 23 24), (0, .class_ 25), (0, .nameAndType 26 27), (0, u "com/example/hongdae/hongdae/sale/WaitingRoom"), (0, u "DEFAULT"), (0, u "Lcom/example/hongdae/hongdae/sale/WaitingRoom;"), (0, .methodref 23 29), (0, .nameAndType 11 30), (0, u "()I"), (0, .methodref 32 33), (0, .class_ 34), (0, .nameAndType 35 36), (0, u "java/lang/Integer"), (0, u "valueOf"), (0, u "(I)Ljava/lang/Integer;"), (0, .methodref 38 39), (0, .class_ 40), (0, .nameAndType 41 42), (0, u "java/util/Objects"), (0, u "requireNonNullElse"), (0, u "(Ljava/lang/Object;Ljava/lang/Object;)Ljava/lang/Object;"), (0, .methodref 32 44), (0, .nameAndType 45 30), (0, u "intValue"), (0, .methodref 23 47), (0, .nameAndType 15 30), (0, .methodref 23 49), (0, .nameAndType 18 30), (0, .methodref 23 51), (0, .nameAndType 21 30), (0, .methodref 23 53), (0, .nameAndType 5 54), (0, u "(IIII)V"), (12, u "(Ljava/lang/Integer;Ljava/lang/Integer;Ljava/lang/Integer;Ljava/lang/Integer;)V"), (3, u "applyTo"), (0, u "(Lcom/example/hongdae/hongdae/sale/WaitingRoom;)Lcom/example/hongdae/hongdae/sale/WaitingRoom;")] 29

def k11c0 : Code := { maxStack := 2, maxLocals := 5, code := prog_18_method_1_code, exceptionTable := #[], attributes := #[] }
def k11m0 : Method := { name := "<init>", desc := "(Ljava/lang/Integer;Ljava/lang/Integer;Ljava/lang/Integer;Ljava/lang/Integer;)V", sig := { parameters := [(.object "java/lang/Integer"), (.object "java/lang/Integer"), (.object "java/lang/Integer"), (.object "java/lang/Integer")], returnType := none }, accessFlags := 1, code := some k11c0 }
def k11c1 : Code := { maxStack := 7, maxLocals := 3, code := prog_18_method_2_code, exceptionTable := #[], attributes := #[] }
def k11m1 : Method := { name := "applyTo", desc := "(Lcom/example/hongdae/hongdae/sale/WaitingRoom;)Lcom/example/hongdae/hongdae/sale/WaitingRoom;", sig := { parameters := [(.object "com/example/hongdae/hongdae/sale/WaitingRoom")], returnType := some (.object "com/example/hongdae/hongdae/sale/WaitingRoom") }, accessFlags := 1, code := some k11c1 }
/-- com/example/hongdae/hongdae/sale/WaitingRoom$Change -/
def k11 : Class := { plain "com/example/hongdae/hongdae/sale/WaitingRoom$Change" (some 2) with
  accessFlags := 49
  interfaces := #[]
  cf := some (fileOf pool11 8 #[.nestHost 23] #[{ accessFlags := 1, nameIndex := 5, descriptorIndex := 67, attributes := #[] }, { accessFlags := 1, nameIndex := 71, descriptorIndex := 72, attributes := #[] }] 49 2 #[] #[{ accessFlags := 18, nameIndex := 11, descriptorIndex := 12, attributes := #[] }, { accessFlags := 18, nameIndex := 15, descriptorIndex := 12, attributes := #[] }, { accessFlags := 18, nameIndex := 18, descriptorIndex := 12, attributes := #[] }, { accessFlags := 18, nameIndex := 21, descriptorIndex := 12, attributes := #[] }])
  fields := #[{ name := "admitPerTick", type := (.object "java/lang/Integer"), accessFlags := 18, slot := 0, constantValue := 0 }, { name := "tickSeconds", type := (.object "java/lang/Integer"), accessFlags := 18, slot := 1, constantValue := 0 }, { name := "maxActive", type := (.object "java/lang/Integer"), accessFlags := 18, slot := 2, constantValue := 0 }, { name := "activeSeconds", type := (.object "java/lang/Integer"), accessFlags := 18, slot := 3, constantValue := 0 }]
  methods := #[k11m0, k11m1]
  instanceTypes := #[(.object "java/lang/Integer"), (.object "java/lang/Integer"), (.object "java/lang/Integer"), (.object "java/lang/Integer")]
  staticTypes := #[]
  resolved := Array.replicate 102 none
  statics := none }

def pool12 : Array CpInfo := pool [(2, .class_ 4), (1, u "java/lang/Object"), (0, u "<init>"), (0, u "()V"), (35, .class_ 44), (1, u "java/util/Objects"), (0, u "requireNonNull"), (44, .string 91), (0, u "defaultObj"), (0, .methodref 42 93), (0, .nameAndType 45 94), (0, u "(Ljava/lang/Object;Ljava/lang/String;)Ljava/lang/Object;"), (65, u "requireNonNullElse"), (0, u "(Ljava/lang/Object;Ljava/lang/Object;)Ljava/lang/Object;")] 22

def k12m0 : Method := { name := "<init>", desc := "()V", sig := { parameters := [], returnType := none }, accessFlags := 2, code := none }
def k12c1 : Code := { maxStack := 3, maxLocals := 2, code := jdk_31_method_11_code, exceptionTable := #[], attributes := #[] }
def k12m1 : Method := { name := "requireNonNull", desc := "(Ljava/lang/Object;Ljava/lang/String;)Ljava/lang/Object;", sig := { parameters := [(.object "java/lang/Object"), (.object "java/lang/String")], returnType := some (.object "java/lang/Object") }, accessFlags := 9, code := some k12c1 }
def k12c2 : Code := { maxStack := 2, maxLocals := 2, code := jdk_31_method_14_code, exceptionTable := #[], attributes := #[] }
def k12m2 : Method := { name := "requireNonNullElse", desc := "(Ljava/lang/Object;Ljava/lang/Object;)Ljava/lang/Object;", sig := { parameters := [(.object "java/lang/Object"), (.object "java/lang/Object")], returnType := some (.object "java/lang/Object") }, accessFlags := 9, code := some k12c2 }
/-- java/util/Objects -/
def k12 : Class := { plain "java/util/Objects" (some 0) with
  accessFlags := 49
  interfaces := #[]
  cf := some (fileOf pool12 42 #[] #[{ accessFlags := 2, nameIndex := 5, descriptorIndex := 6, attributes := #[] }, { accessFlags := 9, nameIndex := 45, descriptorIndex := 94, attributes := #[] }, { accessFlags := 9, nameIndex := 160, descriptorIndex := 161, attributes := #[] }] 49 2 #[] #[])
  fields := #[]
  methods := #[k12m0, k12m1, k12m2]
  instanceTypes := #[]
  staticTypes := #[]
  resolved := Array.replicate 184 none
  statics := none }

def pool13 : Array CpInfo := pool [(2, .class_ 4), (1, u "java/lang/CharSequence"), (42, .class_ 48), (0, u "java/lang/CharSequence$1CodePointIterator"), (10, .class_ 60), (0, u "java/lang/CharSequence$1CharIterator"), (5, .class_ 67), (0, u "java/lang/Object")] 63

/-- java/lang/CharSequence -/
def k13 : Class := { plain "java/lang/CharSequence" (some 0) with
  accessFlags := 1537
  interfaces := #[]
  cf := some (fileOf pool13 2 #[.nestMembers #[47, 59]] #[] 1537 66 #[] #[])
  fields := #[]
  methods := #[]
  instanceTypes := #[]
  staticTypes := #[]
  resolved := Array.replicate 131 none
  statics := none }

def pool14 : Array CpInfo := pool [(2, .class_ 4), (1, u "java/lang/Object"), (0, u "<init>"), (0, u "()V"), (3, .class_ 12), (1, u "java/lang/String"), (0, u "value"), (0, u "[B"), (2, u "coder"), (0, u "B"), (2, u "hash"), (0, u "I"), (2, u "hashIsZero"), (0, u "Z"), (13, u "COMPACT_STRINGS"), (534, .class_ 576), (0, u "java/lang/CharSequence"), (22, u "CASE_INSENSITIVE_ORDER"), (0, u "Ljava/util/Comparator;"), (500, u "serialPersistentFields"), (0, u "[Ljava/io/ObjectStreamField;"), (0, .class_ 1104), (0, u "java/lang/String$CaseInsensitiveComparator"), (1, .class_ 1107), (0, u "java/io/Serializable"), (0, .class_ 1109), (0, u "java/lang/Comparable"), (0, .class_ 1111), (0, u "java/lang/constant/Constable"), (0, .class_ 1113), (0, u "java/lang/constant/ConstantDesc"), (2, u "serialVersionUID"), (0, u "J"), (3, u "REPL"), (0, u "C"), (2, u "LATIN1"), (1, u "UTF16")] 323

def k14m0 : Method := { name := "<init>", desc := "()V", sig := { parameters := [], returnType := none }, accessFlags := 1, code := none }
/-- java/lang/String -/
def k14 : Class := { plain "java/lang/String" (some 0) with
  accessFlags := 49
  interfaces := #[4, 6, 13, 7, 8]
  cf := some (fileOf pool14 10 #[.nestMembers #[1103]] #[{ accessFlags := 1, nameIndex := 5, descriptorIndex := 6, attributes := #[] }] 49 2 #[1106, 1108, 575, 1110, 1112] #[{ accessFlags := 18, nameIndex := 13, descriptorIndex := 14, attributes := #[] }, { accessFlags := 18, nameIndex := 17, descriptorIndex := 18, attributes := #[] }, { accessFlags := 2, nameIndex := 21, descriptorIndex := 22, attributes := #[] }, { accessFlags := 2, nameIndex := 25, descriptorIndex := 26, attributes := #[] }, { accessFlags := 26, nameIndex := 1116, descriptorIndex := 1117, attributes := #[] }, { accessFlags := 24, nameIndex := 40, descriptorIndex := 26, attributes := #[] }, { accessFlags := 26, nameIndex := 1101, descriptorIndex := 1102, attributes := #[] }, { accessFlags := 26, nameIndex := 1121, descriptorIndex := 1122, attributes := #[] }, { accessFlags := 25, nameIndex := 599, descriptorIndex := 600, attributes := #[] }, { accessFlags := 24, nameIndex := 1125, descriptorIndex := 18, attributes := #[] }, { accessFlags := 24, nameIndex := 1127, descriptorIndex := 18, attributes := #[] }])
  fields := #[{ name := "value", type := (.array .byte), accessFlags := 18, slot := 0, constantValue := 0 }, { name := "coder", type := .byte, accessFlags := 18, slot := 1, constantValue := 0 }, { name := "hash", type := .int, accessFlags := 2, slot := 2, constantValue := 0 }, { name := "hashIsZero", type := .boolean, accessFlags := 2, slot := 3, constantValue := 0 }, { name := "serialVersionUID", type := .long, accessFlags := 26, slot := 0, constantValue := 0 }, { name := "COMPACT_STRINGS", type := .boolean, accessFlags := 24, slot := 1, constantValue := 0 }, { name := "serialPersistentFields", type := (.array (.object "java/io/ObjectStreamField")), accessFlags := 26, slot := 2, constantValue := 0 }, { name := "REPL", type := .char, accessFlags := 26, slot := 3, constantValue := 0 }, { name := "CASE_INSENSITIVE_ORDER", type := (.object "java/util/Comparator"), accessFlags := 25, slot := 4, constantValue := 0 }, { name := "LATIN1", type := .byte, accessFlags := 24, slot := 5, constantValue := 0 }, { name := "UTF16", type := .byte, accessFlags := 24, slot := 6, constantValue := 0 }]
  methods := #[k14m0]
  instanceTypes := #[(.array .byte), .byte, .int, .boolean]
  staticTypes := #[.long, .boolean, (.array (.object "java/io/ObjectStreamField")), .char, (.object "java/util/Comparator"), .byte, .byte]
  resolved := Array.replicate 1451 none
  statics := none }

def pool15 : Array CpInfo := pool [(1, u "java/lang/Cloneable"), (0, .class_ 1), (0, u "java/lang/Object"), (0, .class_ 3)] 3

/-- java/lang/Cloneable -/
def k15 : Class := { plain "java/lang/Cloneable" (some 0) with
  accessFlags := 1537
  interfaces := #[]
  cf := some (fileOf pool15 2 #[] #[] 1537 4 #[] #[])
  fields := #[]
  methods := #[]
  instanceTypes := #[]
  staticTypes := #[]
  resolved := Array.replicate 8 none
  statics := none }

/-- the primitive byte -/
def k16 : Class := { plain "byte" none with kind := .primitive 'B', accessFlags := 0x411 }
/-- [B -/
def k17 : Class := { plain "[B" (some 0) with kind := .array 16 .byte, interfaces := #[15, 4], accessFlags := 1041 }

/-- the primitive int -/
def k18 : Class := { plain "int" none with kind := .primitive 'I', accessFlags := 0x411 }
/-- [I -/
def k19 : Class := { plain "[I" (some 0) with kind := .array 18 .int, interfaces := #[15, 4], accessFlags := 1041 }

/-- [Ljava/lang/Integer; -/
def k20 : Class := { plain "[Ljava/lang/Integer;" (some 0) with kind := .array 9 (.object "java/lang/Integer"), interfaces := #[15, 4], accessFlags := 1041 }

def heap : Heap := #[{ cls := 3, slots := #[.int 0, .int 0, .int 0, .int 0, .int 0, .int 0, .int 0, .int 0, .int 0, .int 0, .int 0, .ref 259], vm := .statics 3 },
  { cls := 10, slots := #[.int 0, .int 127, .ref 2, .null, .int 0], vm := .statics 10 },
  { cls := 20, slots := #[.ref 3, .ref 4, .ref 5, .ref 6, .ref 7, .ref 8, .ref 9, .ref 10, .ref 11, .ref 12, .ref 13, .ref 14, .ref 15, .ref 16, .ref 17, .ref 18, .ref 19, .ref 20, .ref 21, .ref 22, .ref 23, .ref 24, .ref 25, .ref 26, .ref 27, .ref 28, .ref 29, .ref 30, .ref 31, .ref 32, .ref 33, .ref 34, .ref 35, .ref 36, .ref 37, .ref 38, .ref 39, .ref 40, .ref 41, .ref 42, .ref 43, .ref 44, .ref 45, .ref 46, .ref 47, .ref 48, .ref 49, .ref 50, .ref 51, .ref 52, .ref 53, .ref 54, .ref 55, .ref 56, .ref 57, .ref 58, .ref 59, .ref 60, .ref 61, .ref 62, .ref 63, .ref 64, .ref 65, .ref 66, .ref 67, .ref 68, .ref 69, .ref 70, .ref 71, .ref 72, .ref 73, .ref 74, .ref 75, .ref 76, .ref 77, .ref 78, .ref 79, .ref 80, .ref 81, .ref 82, .ref 83, .ref 84, .ref 85, .ref 86, .ref 87, .ref 88, .ref 89, .ref 90, .ref 91, .ref 92, .ref 93, .ref 94, .ref 95, .ref 96, .ref 97, .ref 98, .ref 99, .ref 100, .ref 101, .ref 102, .ref 103, .ref 104, .ref 105, .ref 106, .ref 107, .ref 108, .ref 109, .ref 110, .ref 111, .ref 112, .ref 113, .ref 114, .ref 115, .ref 116, .ref 117, .ref 118, .ref 119, .ref 120, .ref 121, .ref 122, .ref 123, .ref 124, .ref 125, .ref 126, .ref 127, .ref 128, .ref 129, .ref 130, .ref 131, .ref 132, .ref 133, .ref 134, .ref 135, .ref 136, .ref 137, .ref 138, .ref 139, .ref 140, .ref 141, .ref 142, .ref 143, .ref 144, .ref 145, .ref 146, .ref 147, .ref 148, .ref 149, .ref 150, .ref 151, .ref 152, .ref 153, .ref 154, .ref 155, .ref 156, .ref 157, .ref 158, .ref 159, .ref 160, .ref 161, .ref 162, .ref 163, .ref 164, .ref 165, .ref 166, .ref 167, .ref 168, .ref 169, .ref 170, .ref 171, .ref 172, .ref 173, .ref 174, .ref 175, .ref 176, .ref 177, .ref 178, .ref 179, .ref 180, .ref 181, .ref 182, .ref 183, .ref 184, .ref 185, .ref 186, .ref 187, .ref 188, .ref 189, .ref 190, .ref 191, .ref 192, .ref 193, .ref 194, .ref 195, .ref 196, .ref 197, .ref 198, .ref 199, .ref 200, .ref 201, .ref 202, .ref 203, .ref 204, .ref 205, .ref 206, .ref 207, .ref 208, .ref 209, .ref 210, .ref 211, .ref 212, .ref 213, .ref 214, .ref 215, .ref 216, .ref 217, .ref 218, .ref 219, .ref 220, .ref 221, .ref 222, .ref 223, .ref 224, .ref 225, .ref 226, .ref 227, .ref 228, .ref 229, .ref 230, .ref 231, .ref 232, .ref 233, .ref 234, .ref 235, .ref 236, .ref 237, .ref 238, .ref 239, .ref 240, .ref 241, .ref 242, .ref 243, .ref 244, .ref 245, .ref 246, .ref 247, .ref 248, .ref 249, .ref 250, .ref 251, .ref 252, .ref 253, .ref 254, .ref 255, .ref 256, .ref 257, .ref 258], vm := .none },
  { cls := 9, slots := #[.int (-128)], vm := .none },
  { cls := 9, slots := #[.int (-127)], vm := .none },
  { cls := 9, slots := #[.int (-126)], vm := .none },
  { cls := 9, slots := #[.int (-125)], vm := .none },
  { cls := 9, slots := #[.int (-124)], vm := .none },
  { cls := 9, slots := #[.int (-123)], vm := .none },
  { cls := 9, slots := #[.int (-122)], vm := .none },
  { cls := 9, slots := #[.int (-121)], vm := .none },
  { cls := 9, slots := #[.int (-120)], vm := .none },
  { cls := 9, slots := #[.int (-119)], vm := .none },
  { cls := 9, slots := #[.int (-118)], vm := .none },
  { cls := 9, slots := #[.int (-117)], vm := .none },
  { cls := 9, slots := #[.int (-116)], vm := .none },
  { cls := 9, slots := #[.int (-115)], vm := .none },
  { cls := 9, slots := #[.int (-114)], vm := .none },
  { cls := 9, slots := #[.int (-113)], vm := .none },
  { cls := 9, slots := #[.int (-112)], vm := .none },
  { cls := 9, slots := #[.int (-111)], vm := .none },
  { cls := 9, slots := #[.int (-110)], vm := .none },
  { cls := 9, slots := #[.int (-109)], vm := .none },
  { cls := 9, slots := #[.int (-108)], vm := .none },
  { cls := 9, slots := #[.int (-107)], vm := .none },
  { cls := 9, slots := #[.int (-106)], vm := .none },
  { cls := 9, slots := #[.int (-105)], vm := .none },
  { cls := 9, slots := #[.int (-104)], vm := .none },
  { cls := 9, slots := #[.int (-103)], vm := .none },
  { cls := 9, slots := #[.int (-102)], vm := .none },
  { cls := 9, slots := #[.int (-101)], vm := .none },
  { cls := 9, slots := #[.int (-100)], vm := .none },
  { cls := 9, slots := #[.int (-99)], vm := .none },
  { cls := 9, slots := #[.int (-98)], vm := .none },
  { cls := 9, slots := #[.int (-97)], vm := .none },
  { cls := 9, slots := #[.int (-96)], vm := .none },
  { cls := 9, slots := #[.int (-95)], vm := .none },
  { cls := 9, slots := #[.int (-94)], vm := .none },
  { cls := 9, slots := #[.int (-93)], vm := .none },
  { cls := 9, slots := #[.int (-92)], vm := .none },
  { cls := 9, slots := #[.int (-91)], vm := .none },
  { cls := 9, slots := #[.int (-90)], vm := .none },
  { cls := 9, slots := #[.int (-89)], vm := .none },
  { cls := 9, slots := #[.int (-88)], vm := .none },
  { cls := 9, slots := #[.int (-87)], vm := .none },
  { cls := 9, slots := #[.int (-86)], vm := .none },
  { cls := 9, slots := #[.int (-85)], vm := .none },
  { cls := 9, slots := #[.int (-84)], vm := .none },
  { cls := 9, slots := #[.int (-83)], vm := .none },
  { cls := 9, slots := #[.int (-82)], vm := .none },
  { cls := 9, slots := #[.int (-81)], vm := .none },
  { cls := 9, slots := #[.int (-80)], vm := .none },
  { cls := 9, slots := #[.int (-79)], vm := .none },
  { cls := 9, slots := #[.int (-78)], vm := .none },
  { cls := 9, slots := #[.int (-77)], vm := .none },
  { cls := 9, slots := #[.int (-76)], vm := .none },
  { cls := 9, slots := #[.int (-75)], vm := .none },
  { cls := 9, slots := #[.int (-74)], vm := .none },
  { cls := 9, slots := #[.int (-73)], vm := .none },
  { cls := 9, slots := #[.int (-72)], vm := .none },
  { cls := 9, slots := #[.int (-71)], vm := .none },
  { cls := 9, slots := #[.int (-70)], vm := .none },
  { cls := 9, slots := #[.int (-69)], vm := .none },
  { cls := 9, slots := #[.int (-68)], vm := .none },
  { cls := 9, slots := #[.int (-67)], vm := .none },
  { cls := 9, slots := #[.int (-66)], vm := .none },
  { cls := 9, slots := #[.int (-65)], vm := .none },
  { cls := 9, slots := #[.int (-64)], vm := .none },
  { cls := 9, slots := #[.int (-63)], vm := .none },
  { cls := 9, slots := #[.int (-62)], vm := .none },
  { cls := 9, slots := #[.int (-61)], vm := .none },
  { cls := 9, slots := #[.int (-60)], vm := .none },
  { cls := 9, slots := #[.int (-59)], vm := .none },
  { cls := 9, slots := #[.int (-58)], vm := .none },
  { cls := 9, slots := #[.int (-57)], vm := .none },
  { cls := 9, slots := #[.int (-56)], vm := .none },
  { cls := 9, slots := #[.int (-55)], vm := .none },
  { cls := 9, slots := #[.int (-54)], vm := .none },
  { cls := 9, slots := #[.int (-53)], vm := .none },
  { cls := 9, slots := #[.int (-52)], vm := .none },
  { cls := 9, slots := #[.int (-51)], vm := .none },
  { cls := 9, slots := #[.int (-50)], vm := .none },
  { cls := 9, slots := #[.int (-49)], vm := .none },
  { cls := 9, slots := #[.int (-48)], vm := .none },
  { cls := 9, slots := #[.int (-47)], vm := .none },
  { cls := 9, slots := #[.int (-46)], vm := .none },
  { cls := 9, slots := #[.int (-45)], vm := .none },
  { cls := 9, slots := #[.int (-44)], vm := .none },
  { cls := 9, slots := #[.int (-43)], vm := .none },
  { cls := 9, slots := #[.int (-42)], vm := .none },
  { cls := 9, slots := #[.int (-41)], vm := .none },
  { cls := 9, slots := #[.int (-40)], vm := .none },
  { cls := 9, slots := #[.int (-39)], vm := .none },
  { cls := 9, slots := #[.int (-38)], vm := .none },
  { cls := 9, slots := #[.int (-37)], vm := .none },
  { cls := 9, slots := #[.int (-36)], vm := .none },
  { cls := 9, slots := #[.int (-35)], vm := .none },
  { cls := 9, slots := #[.int (-34)], vm := .none },
  { cls := 9, slots := #[.int (-33)], vm := .none },
  { cls := 9, slots := #[.int (-32)], vm := .none },
  { cls := 9, slots := #[.int (-31)], vm := .none },
  { cls := 9, slots := #[.int (-30)], vm := .none },
  { cls := 9, slots := #[.int (-29)], vm := .none },
  { cls := 9, slots := #[.int (-28)], vm := .none },
  { cls := 9, slots := #[.int (-27)], vm := .none },
  { cls := 9, slots := #[.int (-26)], vm := .none },
  { cls := 9, slots := #[.int (-25)], vm := .none },
  { cls := 9, slots := #[.int (-24)], vm := .none },
  { cls := 9, slots := #[.int (-23)], vm := .none },
  { cls := 9, slots := #[.int (-22)], vm := .none },
  { cls := 9, slots := #[.int (-21)], vm := .none },
  { cls := 9, slots := #[.int (-20)], vm := .none },
  { cls := 9, slots := #[.int (-19)], vm := .none },
  { cls := 9, slots := #[.int (-18)], vm := .none },
  { cls := 9, slots := #[.int (-17)], vm := .none },
  { cls := 9, slots := #[.int (-16)], vm := .none },
  { cls := 9, slots := #[.int (-15)], vm := .none },
  { cls := 9, slots := #[.int (-14)], vm := .none },
  { cls := 9, slots := #[.int (-13)], vm := .none },
  { cls := 9, slots := #[.int (-12)], vm := .none },
  { cls := 9, slots := #[.int (-11)], vm := .none },
  { cls := 9, slots := #[.int (-10)], vm := .none },
  { cls := 9, slots := #[.int (-9)], vm := .none },
  { cls := 9, slots := #[.int (-8)], vm := .none },
  { cls := 9, slots := #[.int (-7)], vm := .none },
  { cls := 9, slots := #[.int (-6)], vm := .none },
  { cls := 9, slots := #[.int (-5)], vm := .none },
  { cls := 9, slots := #[.int (-4)], vm := .none },
  { cls := 9, slots := #[.int (-3)], vm := .none },
  { cls := 9, slots := #[.int (-2)], vm := .none },
  { cls := 9, slots := #[.int (-1)], vm := .none },
  { cls := 9, slots := #[.int (0)], vm := .none },
  { cls := 9, slots := #[.int (1)], vm := .none },
  { cls := 9, slots := #[.int (2)], vm := .none },
  { cls := 9, slots := #[.int (3)], vm := .none },
  { cls := 9, slots := #[.int (4)], vm := .none },
  { cls := 9, slots := #[.int (5)], vm := .none },
  { cls := 9, slots := #[.int (6)], vm := .none },
  { cls := 9, slots := #[.int (7)], vm := .none },
  { cls := 9, slots := #[.int (8)], vm := .none },
  { cls := 9, slots := #[.int (9)], vm := .none },
  { cls := 9, slots := #[.int (10)], vm := .none },
  { cls := 9, slots := #[.int (11)], vm := .none },
  { cls := 9, slots := #[.int (12)], vm := .none },
  { cls := 9, slots := #[.int (13)], vm := .none },
  { cls := 9, slots := #[.int (14)], vm := .none },
  { cls := 9, slots := #[.int (15)], vm := .none },
  { cls := 9, slots := #[.int (16)], vm := .none },
  { cls := 9, slots := #[.int (17)], vm := .none },
  { cls := 9, slots := #[.int (18)], vm := .none },
  { cls := 9, slots := #[.int (19)], vm := .none },
  { cls := 9, slots := #[.int (20)], vm := .none },
  { cls := 9, slots := #[.int (21)], vm := .none },
  { cls := 9, slots := #[.int (22)], vm := .none },
  { cls := 9, slots := #[.int (23)], vm := .none },
  { cls := 9, slots := #[.int (24)], vm := .none },
  { cls := 9, slots := #[.int (25)], vm := .none },
  { cls := 9, slots := #[.int (26)], vm := .none },
  { cls := 9, slots := #[.int (27)], vm := .none },
  { cls := 9, slots := #[.int (28)], vm := .none },
  { cls := 9, slots := #[.int (29)], vm := .none },
  { cls := 9, slots := #[.int (30)], vm := .none },
  { cls := 9, slots := #[.int (31)], vm := .none },
  { cls := 9, slots := #[.int (32)], vm := .none },
  { cls := 9, slots := #[.int (33)], vm := .none },
  { cls := 9, slots := #[.int (34)], vm := .none },
  { cls := 9, slots := #[.int (35)], vm := .none },
  { cls := 9, slots := #[.int (36)], vm := .none },
  { cls := 9, slots := #[.int (37)], vm := .none },
  { cls := 9, slots := #[.int (38)], vm := .none },
  { cls := 9, slots := #[.int (39)], vm := .none },
  { cls := 9, slots := #[.int (40)], vm := .none },
  { cls := 9, slots := #[.int (41)], vm := .none },
  { cls := 9, slots := #[.int (42)], vm := .none },
  { cls := 9, slots := #[.int (43)], vm := .none },
  { cls := 9, slots := #[.int (44)], vm := .none },
  { cls := 9, slots := #[.int (45)], vm := .none },
  { cls := 9, slots := #[.int (46)], vm := .none },
  { cls := 9, slots := #[.int (47)], vm := .none },
  { cls := 9, slots := #[.int (48)], vm := .none },
  { cls := 9, slots := #[.int (49)], vm := .none },
  { cls := 9, slots := #[.int (50)], vm := .none },
  { cls := 9, slots := #[.int (51)], vm := .none },
  { cls := 9, slots := #[.int (52)], vm := .none },
  { cls := 9, slots := #[.int (53)], vm := .none },
  { cls := 9, slots := #[.int (54)], vm := .none },
  { cls := 9, slots := #[.int (55)], vm := .none },
  { cls := 9, slots := #[.int (56)], vm := .none },
  { cls := 9, slots := #[.int (57)], vm := .none },
  { cls := 9, slots := #[.int (58)], vm := .none },
  { cls := 9, slots := #[.int (59)], vm := .none },
  { cls := 9, slots := #[.int (60)], vm := .none },
  { cls := 9, slots := #[.int (61)], vm := .none },
  { cls := 9, slots := #[.int (62)], vm := .none },
  { cls := 9, slots := #[.int (63)], vm := .none },
  { cls := 9, slots := #[.int (64)], vm := .none },
  { cls := 9, slots := #[.int (65)], vm := .none },
  { cls := 9, slots := #[.int (66)], vm := .none },
  { cls := 9, slots := #[.int (67)], vm := .none },
  { cls := 9, slots := #[.int (68)], vm := .none },
  { cls := 9, slots := #[.int (69)], vm := .none },
  { cls := 9, slots := #[.int (70)], vm := .none },
  { cls := 9, slots := #[.int (71)], vm := .none },
  { cls := 9, slots := #[.int (72)], vm := .none },
  { cls := 9, slots := #[.int (73)], vm := .none },
  { cls := 9, slots := #[.int (74)], vm := .none },
  { cls := 9, slots := #[.int (75)], vm := .none },
  { cls := 9, slots := #[.int (76)], vm := .none },
  { cls := 9, slots := #[.int (77)], vm := .none },
  { cls := 9, slots := #[.int (78)], vm := .none },
  { cls := 9, slots := #[.int (79)], vm := .none },
  { cls := 9, slots := #[.int (80)], vm := .none },
  { cls := 9, slots := #[.int (81)], vm := .none },
  { cls := 9, slots := #[.int (82)], vm := .none },
  { cls := 9, slots := #[.int (83)], vm := .none },
  { cls := 9, slots := #[.int (84)], vm := .none },
  { cls := 9, slots := #[.int (85)], vm := .none },
  { cls := 9, slots := #[.int (86)], vm := .none },
  { cls := 9, slots := #[.int (87)], vm := .none },
  { cls := 9, slots := #[.int (88)], vm := .none },
  { cls := 9, slots := #[.int (89)], vm := .none },
  { cls := 9, slots := #[.int (90)], vm := .none },
  { cls := 9, slots := #[.int (91)], vm := .none },
  { cls := 9, slots := #[.int (92)], vm := .none },
  { cls := 9, slots := #[.int (93)], vm := .none },
  { cls := 9, slots := #[.int (94)], vm := .none },
  { cls := 9, slots := #[.int (95)], vm := .none },
  { cls := 9, slots := #[.int (96)], vm := .none },
  { cls := 9, slots := #[.int (97)], vm := .none },
  { cls := 9, slots := #[.int (98)], vm := .none },
  { cls := 9, slots := #[.int (99)], vm := .none },
  { cls := 9, slots := #[.int (100)], vm := .none },
  { cls := 9, slots := #[.int (101)], vm := .none },
  { cls := 9, slots := #[.int (102)], vm := .none },
  { cls := 9, slots := #[.int (103)], vm := .none },
  { cls := 9, slots := #[.int (104)], vm := .none },
  { cls := 9, slots := #[.int (105)], vm := .none },
  { cls := 9, slots := #[.int (106)], vm := .none },
  { cls := 9, slots := #[.int (107)], vm := .none },
  { cls := 9, slots := #[.int (108)], vm := .none },
  { cls := 9, slots := #[.int (109)], vm := .none },
  { cls := 9, slots := #[.int (110)], vm := .none },
  { cls := 9, slots := #[.int (111)], vm := .none },
  { cls := 9, slots := #[.int (112)], vm := .none },
  { cls := 9, slots := #[.int (113)], vm := .none },
  { cls := 9, slots := #[.int (114)], vm := .none },
  { cls := 9, slots := #[.int (115)], vm := .none },
  { cls := 9, slots := #[.int (116)], vm := .none },
  { cls := 9, slots := #[.int (117)], vm := .none },
  { cls := 9, slots := #[.int (118)], vm := .none },
  { cls := 9, slots := #[.int (119)], vm := .none },
  { cls := 9, slots := #[.int (120)], vm := .none },
  { cls := 9, slots := #[.int (121)], vm := .none },
  { cls := 9, slots := #[.int (122)], vm := .none },
  { cls := 9, slots := #[.int (123)], vm := .none },
  { cls := 9, slots := #[.int (124)], vm := .none },
  { cls := 9, slots := #[.int (125)], vm := .none },
  { cls := 9, slots := #[.int (126)], vm := .none },
  { cls := 9, slots := #[.int (127)], vm := .none },
  { cls := 3, slots := #[.int 3000, .int 10, .int 0, .int 300], vm := .none }]
def classes : Array Class := #[k0, k1, k2, k3, k4, k5, k6, k7, k8, k9, k10, k11, k12, k13, k14, k15, k16, k17, k18, k19, k20]
def interned : List (Array UInt16 × Addr) := []
def slotsUsed : Nat := 533
def theMethod : MethodId := ⟨1, 1⟩
def args0 : Array Value := #[.long 5, .long 6, .long 7, .long 8, .int 3]
def aboutOver (below : List Frame) : State where
  vm := { classes := classes, interned := interned.toArray }
  heap := heap
  slotsUsed := slotsUsed
  threads := #[{ frames := .invoking theMethod args0 :: below }]
def below0 : List Frame := [.native { method := ⟨0, 0⟩, args := #[] }]
def about1 : State := aboutOver below0
def p0 : Program := .bare "" "" ""
def e0 : Env := launch0.env 0 0 0
theorem w_frames : about1.frames = Frame.invoking theMethod args0 :: below0 := rfl
set_option maxRecDepth 65536 in
theorem w_args : argsFit about1.vm theMethod args0 = true := by decide +kernel
set_option maxRecDepth 65536 in
theorem w_heap : heapFits about1 = true := by decide +kernel
set_option maxRecDepth 65536 in
theorem w_runnable : about1.curStatus? = some .runnable := by decide +kernel
set_option maxRecDepth 65536 in
theorem w_alone : about1.alone = true := by decide +kernel
set_option maxRecDepth 65536 in
theorem w_named : about1.methodNamed? x = some theMethod := by decide +kernel
set_option maxRecDepth 65536 in
theorem w_hears : about1.hears theMethod below0 = true := by decide +kernel
set_option maxRecDepth 65536 in
theorem w_ripe : about1.ripe theMethod args0 below0 = true := by decide +kernel
theorem w_running : about1.status = .running := rfl
set_option maxRecDepth 65536 in
theorem w_room : about1.hasRoom e0.platform room_1 = true :=
  launch0.hasRoom_least _ room_1 (by decide +kernel) (by decide +kernel) (by decide +kernel) (by decide +kernel) (by decide +kernel) (by decide +kernel)
theorem allAtoms_all (ts : List Jvm.Cond) (a : Array Jvm.Value) (st : Jvm.State) : (allAtoms ts).before a st = ts.all (fun c => c.before a st) := by
  induction ts with
  | nil => rfl
  | cons c t ih =>
    show (Jvm.Cond.and c (allAtoms t)).before a st = _
    rw [Jvm.Cond.before_and, ih, List.all_cons]
def words1 : List Jvm.Cond := Jvm.Cond.code x code maxLocals ret :: tables_1
/-- a 'code' word, met by the world's own term for the bytes: nothing is compared byte by byte -/
theorem code_word {y : MethodName} {bytes : ByteArray} {mx : Nat} {rt : Option FieldType} {a : Array Value} {s : State} {m : MethodId} {meth : Method} {c : Code} (h1 : s.methodNamed? y = some m) (h2 : s.vm.method? m = some meth) (h3 : meth.code = some c) (h4 : c.code = bytes)
    (h5 : (c.maxLocals == mx && c.exceptionTable.isEmpty && decide (c.maxStack ≤ mostOperands) && decide (meth.sig.returnType = rt) && !meth.locks && decide (parseMethodDescriptor y.desc = some meth.sig)) = true) : (Jvm.Cond.code y bytes mx rt).before a s = true := by
  simp only [Bool.and_eq_true, beq_iff_eq, Bool.not_eq_true', decide_eq_true_eq] at h5
  obtain ⟨⟨⟨⟨⟨g1, g2⟩, g3⟩, g4⟩, g5⟩, g6⟩ := h5
  simp [Cond.before, Cond.holds, Cond.value, h1, h2, h3, h4, g1, g2, g3, g4, g5, g6]
def isCode : Jvm.Cond → Bool
  | .code _ _ _ _ => true
  | _ => false
theorem all_split {L : List Jvm.Cond} {P : Jvm.Cond → Bool} (h1 : L.all (fun c => isCode c || P c) = true) (h2 : ∀ c ∈ L.filter isCode, P c = true) : L.all P = true := by
  refine List.all_eq_true.mpr fun c hc => ?_
  have h := List.all_eq_true.mp h1 c hc
  rcases Bool.eq_false_or_eq_true (isCode c) with hi | hi
  · exact h2 c (List.mem_filter.mpr ⟨hc, hi⟩)
  · simpa [hi] using h
set_option maxRecDepth 65536 in
theorem w_c0 : (Jvm.Cond.code x code maxLocals ret).before args0 about1 = true := code_word (m := ⟨1, 1⟩) (meth := k1m1) (c := k1c1) (by decide +kernel) rfl rfl rfl (by decide +kernel)
set_option maxRecDepth 65536 in
theorem w_c1 : (Jvm.Cond.code ({ cls := "com/example/hongdae/hongdae/sale/WaitingRoom", name := "<init>", desc := "(IIII)V" } : Jvm.MethodName) prog_17_method_1_code (5 : Nat) (Option.none : Option Jvm.ClassFile.FieldType)).before args0 about1 = true := code_word (m := ⟨3, 0⟩) (meth := k3m0) (c := k3c0) (by decide +kernel) rfl rfl rfl (by decide +kernel)
set_option maxRecDepth 65536 in
theorem w_c2 : (Jvm.Cond.code ({ cls := "java/lang/Record", name := "<init>", desc := "()V" } : Jvm.MethodName) jdk_30_method_1_code (1 : Nat) (Option.none : Option Jvm.ClassFile.FieldType)).before args0 about1 = true := code_word (m := ⟨2, 0⟩) (meth := k2m0) (c := k2c0) (by decide +kernel) rfl rfl rfl (by decide +kernel)
set_option maxRecDepth 65536 in
theorem w_c3 : (Jvm.Cond.code ({ cls := "java/lang/Object", name := "<init>", desc := "()V" } : Jvm.MethodName) object_method_1_code (1 : Nat) (Option.none : Option Jvm.ClassFile.FieldType)).before args0 about1 = true := code_word (m := ⟨0, 0⟩) (meth := k0m0) (c := k0c0) (by decide +kernel) rfl rfl rfl (by decide +kernel)
set_option maxRecDepth 65536 in
theorem w_c4 : (Jvm.Cond.code ({ cls := "java/lang/Integer", name := "valueOf", desc := "(I)Ljava/lang/Integer;" } : Jvm.MethodName) jdk_33_method_22_code (1 : Nat) (Option.some (Jvm.ClassFile.FieldType.object "java/lang/Integer"))).before args0 about1 = true := code_word (m := ⟨9, 0⟩) (meth := k9m0) (c := k9c0) (by decide +kernel) rfl rfl rfl (by decide +kernel)
set_option maxRecDepth 65536 in
theorem w_c5 : (Jvm.Cond.code ({ cls := "com/example/hongdae/hongdae/sale/WaitingRoom$Change", name := "<init>", desc := "(Ljava/lang/Integer;Ljava/lang/Integer;Ljava/lang/Integer;Ljava/lang/Integer;)V" } : Jvm.MethodName) prog_18_method_1_code (5 : Nat) (Option.none : Option Jvm.ClassFile.FieldType)).before args0 about1 = true := code_word (m := ⟨11, 0⟩) (meth := k11m0) (c := k11c0) (by decide +kernel) rfl rfl rfl (by decide +kernel)
set_option maxRecDepth 65536 in
theorem w_c6 : (Jvm.Cond.code ({ cls := "com/example/hongdae/hongdae/sale/WaitingRoom$Change", name := "applyTo", desc := "(Lcom/example/hongdae/hongdae/sale/WaitingRoom;)Lcom/example/hongdae/hongdae/sale/WaitingRoom;" } : Jvm.MethodName) prog_18_method_2_code (3 : Nat) (Option.some (Jvm.ClassFile.FieldType.object "com/example/hongdae/hongdae/sale/WaitingRoom"))).before args0 about1 = true := code_word (m := ⟨11, 1⟩) (meth := k11m1) (c := k11c1) (by decide +kernel) rfl rfl rfl (by decide +kernel)
set_option maxRecDepth 65536 in
theorem w_c7 : (Jvm.Cond.code ({ cls := "com/example/hongdae/hongdae/sale/WaitingRoom", name := "admitPerTick", desc := "()I" } : Jvm.MethodName) prog_17_method_5_code (1 : Nat) (Option.some Jvm.ClassFile.FieldType.int)).before args0 about1 = true := code_word (m := ⟨3, 1⟩) (meth := k3m1) (c := k3c1) (by decide +kernel) rfl rfl rfl (by decide +kernel)
set_option maxRecDepth 65536 in
theorem w_c8 : (Jvm.Cond.code ({ cls := "java/lang/Integer", name := "<init>", desc := "(I)V" } : Jvm.MethodName) jdk_33_method_23_code (2 : Nat) (Option.none : Option Jvm.ClassFile.FieldType)).before args0 about1 = true := code_word (m := ⟨9, 1⟩) (meth := k9m1) (c := k9c1) (by decide +kernel) rfl rfl rfl (by decide +kernel)
set_option maxRecDepth 65536 in
theorem w_c9 : (Jvm.Cond.code ({ cls := "java/lang/Number", name := "<init>", desc := "()V" } : Jvm.MethodName) jdk_18_method_1_code (1 : Nat) (Option.none : Option Jvm.ClassFile.FieldType)).before args0 about1 = true := code_word (m := ⟨5, 0⟩) (meth := k5m0) (c := k5c0) (by decide +kernel) rfl rfl rfl (by decide +kernel)
set_option maxRecDepth 65536 in
theorem w_c10 : (Jvm.Cond.code ({ cls := "java/util/Objects", name := "requireNonNullElse", desc := "(Ljava/lang/Object;Ljava/lang/Object;)Ljava/lang/Object;" } : Jvm.MethodName) jdk_31_method_14_code (2 : Nat) (Option.some (Jvm.ClassFile.FieldType.object "java/lang/Object"))).before args0 about1 = true := code_word (m := ⟨12, 2⟩) (meth := k12m2) (c := k12c2) (by decide +kernel) rfl rfl rfl (by decide +kernel)
set_option maxRecDepth 65536 in
theorem w_c11 : (Jvm.Cond.code ({ cls := "java/util/Objects", name := "requireNonNull", desc := "(Ljava/lang/Object;Ljava/lang/String;)Ljava/lang/Object;" } : Jvm.MethodName) jdk_31_method_11_code (2 : Nat) (Option.some (Jvm.ClassFile.FieldType.object "java/lang/Object"))).before args0 about1 = true := code_word (m := ⟨12, 1⟩) (meth := k12m1) (c := k12c1) (by decide +kernel) rfl rfl rfl (by decide +kernel)
set_option maxRecDepth 65536 in
theorem w_c12 : (Jvm.Cond.code ({ cls := "java/lang/Integer", name := "intValue", desc := "()I" } : Jvm.MethodName) jdk_33_method_27_code (1 : Nat) (Option.some Jvm.ClassFile.FieldType.int)).before args0 about1 = true := code_word (m := ⟨9, 2⟩) (meth := k9m2) (c := k9c2) (by decide +kernel) rfl rfl rfl (by decide +kernel)
set_option maxRecDepth 65536 in
theorem w_c13 : (Jvm.Cond.code ({ cls := "com/example/hongdae/hongdae/sale/WaitingRoom", name := "tickSeconds", desc := "()I" } : Jvm.MethodName) prog_17_method_6_code (1 : Nat) (Option.some Jvm.ClassFile.FieldType.int)).before args0 about1 = true := code_word (m := ⟨3, 2⟩) (meth := k3m2) (c := k3c2) (by decide +kernel) rfl rfl rfl (by decide +kernel)
set_option maxRecDepth 65536 in
theorem w_c14 : (Jvm.Cond.code ({ cls := "com/example/hongdae/hongdae/sale/WaitingRoom", name := "maxActive", desc := "()I" } : Jvm.MethodName) prog_17_method_7_code (1 : Nat) (Option.some Jvm.ClassFile.FieldType.int)).before args0 about1 = true := code_word (m := ⟨3, 3⟩) (meth := k3m3) (c := k3c3) (by decide +kernel) rfl rfl rfl (by decide +kernel)
set_option maxRecDepth 65536 in
theorem w_c15 : (Jvm.Cond.code ({ cls := "com/example/hongdae/hongdae/sale/WaitingRoom", name := "activeSeconds", desc := "()I" } : Jvm.MethodName) prog_17_method_8_code (1 : Nat) (Option.some Jvm.ClassFile.FieldType.int)).before args0 about1 = true := code_word (m := ⟨3, 4⟩) (meth := k3m4) (c := k3c4) (by decide +kernel) rfl rfl rfl (by decide +kernel)
set_option maxRecDepth 65536 in
theorem w_c16 : (Jvm.Cond.code ({ cls := "com/example/hongdae/hongdae/sale/ChangeApplyToPinLaw", name := "expect", desc := "(ZIZII)I" } : Jvm.MethodName) method_3_code (5 : Nat) (Option.some Jvm.ClassFile.FieldType.int)).before args0 about1 = true := code_word (m := ⟨1, 2⟩) (meth := k1m2) (c := k1c2) (by decide +kernel) rfl rfl rfl (by decide +kernel)
def codes1 : List Jvm.Cond := [Jvm.Cond.code x code maxLocals ret, Jvm.Cond.code ({ cls := "com/example/hongdae/hongdae/sale/WaitingRoom", name := "<init>", desc := "(IIII)V" } : Jvm.MethodName) prog_17_method_1_code (5 : Nat) (Option.none : Option Jvm.ClassFile.FieldType), Jvm.Cond.code ({ cls := "java/lang/Record", name := "<init>", desc := "()V" } : Jvm.MethodName) jdk_30_method_1_code (1 : Nat) (Option.none : Option Jvm.ClassFile.FieldType), Jvm.Cond.code ({ cls := "java/lang/Object", name := "<init>", desc := "()V" } : Jvm.MethodName) object_method_1_code (1 : Nat) (Option.none : Option Jvm.ClassFile.FieldType), Jvm.Cond.code ({ cls := "java/lang/Integer", name := "valueOf", desc := "(I)Ljava/lang/Integer;" } : Jvm.MethodName) jdk_33_method_22_code (1 : Nat) (Option.some (Jvm.ClassFile.FieldType.object "java/lang/Integer")), Jvm.Cond.code ({ cls := "com/example/hongdae/hongdae/sale/WaitingRoom$Change", name := "<init>", desc := "(Ljava/lang/Integer;Ljava/lang/Integer;Ljava/lang/Integer;Ljava/lang/Integer;)V" } : Jvm.MethodName) prog_18_method_1_code (5 : Nat) (Option.none : Option Jvm.ClassFile.FieldType), Jvm.Cond.code ({ cls := "com/example/hongdae/hongdae/sale/WaitingRoom$Change", name := "applyTo", desc := "(Lcom/example/hongdae/hongdae/sale/WaitingRoom;)Lcom/example/hongdae/hongdae/sale/WaitingRoom;" } : Jvm.MethodName) prog_18_method_2_code (3 : Nat) (Option.some (Jvm.ClassFile.FieldType.object "com/example/hongdae/hongdae/sale/WaitingRoom")), Jvm.Cond.code ({ cls := "com/example/hongdae/hongdae/sale/WaitingRoom", name := "admitPerTick", desc := "()I" } : Jvm.MethodName) prog_17_method_5_code (1 : Nat) (Option.some Jvm.ClassFile.FieldType.int), Jvm.Cond.code ({ cls := "java/lang/Integer", name := "<init>", desc := "(I)V" } : Jvm.MethodName) jdk_33_method_23_code (2 : Nat) (Option.none : Option Jvm.ClassFile.FieldType), Jvm.Cond.code ({ cls := "java/lang/Number", name := "<init>", desc := "()V" } : Jvm.MethodName) jdk_18_method_1_code (1 : Nat) (Option.none : Option Jvm.ClassFile.FieldType), Jvm.Cond.code ({ cls := "java/util/Objects", name := "requireNonNullElse", desc := "(Ljava/lang/Object;Ljava/lang/Object;)Ljava/lang/Object;" } : Jvm.MethodName) jdk_31_method_14_code (2 : Nat) (Option.some (Jvm.ClassFile.FieldType.object "java/lang/Object")), Jvm.Cond.code ({ cls := "java/util/Objects", name := "requireNonNull", desc := "(Ljava/lang/Object;Ljava/lang/String;)Ljava/lang/Object;" } : Jvm.MethodName) jdk_31_method_11_code (2 : Nat) (Option.some (Jvm.ClassFile.FieldType.object "java/lang/Object")), Jvm.Cond.code ({ cls := "java/lang/Integer", name := "intValue", desc := "()I" } : Jvm.MethodName) jdk_33_method_27_code (1 : Nat) (Option.some Jvm.ClassFile.FieldType.int), Jvm.Cond.code ({ cls := "com/example/hongdae/hongdae/sale/WaitingRoom", name := "tickSeconds", desc := "()I" } : Jvm.MethodName) prog_17_method_6_code (1 : Nat) (Option.some Jvm.ClassFile.FieldType.int), Jvm.Cond.code ({ cls := "com/example/hongdae/hongdae/sale/WaitingRoom", name := "maxActive", desc := "()I" } : Jvm.MethodName) prog_17_method_7_code (1 : Nat) (Option.some Jvm.ClassFile.FieldType.int), Jvm.Cond.code ({ cls := "com/example/hongdae/hongdae/sale/WaitingRoom", name := "activeSeconds", desc := "()I" } : Jvm.MethodName) prog_17_method_8_code (1 : Nat) (Option.some Jvm.ClassFile.FieldType.int), Jvm.Cond.code ({ cls := "com/example/hongdae/hongdae/sale/ChangeApplyToPinLaw", name := "expect", desc := "(ZIZII)I" } : Jvm.MethodName) method_3_code (5 : Nat) (Option.some Jvm.ClassFile.FieldType.int)]
set_option maxRecDepth 65536 in
theorem codes_eq : words1.filter isCode = codes1 := rfl
theorem w_codes : ∀ c ∈ words1.filter isCode, c.before args0 about1 = true := by
  rw [codes_eq]
  intro c hc
  simp only [codes1, List.mem_cons, List.not_mem_nil, or_false] at hc
  rcases hc with rfl | rfl | rfl | rfl | rfl | rfl | rfl | rfl | rfl | rfl | rfl | rfl | rfl | rfl | rfl | rfl | rfl
  · exact w_c0
  · exact w_c1
  · exact w_c2
  · exact w_c3
  · exact w_c4
  · exact w_c5
  · exact w_c6
  · exact w_c7
  · exact w_c8
  · exact w_c9
  · exact w_c10
  · exact w_c11
  · exact w_c12
  · exact w_c13
  · exact w_c14
  · exact w_c15
  · exact w_c16
set_option maxRecDepth 65536 in
theorem w_t1 : (words1.take 24).all (fun c => isCode c || c.before args0 about1) = true := by decide +kernel
set_option maxRecDepth 65536 in
theorem w_t2 : ((words1.drop 24).take 24).all (fun c => isCode c || c.before args0 about1) = true := by decide +kernel
set_option maxRecDepth 65536 in
theorem w_t3 : (((words1.drop 24).drop 24).take 24).all (fun c => isCode c || c.before args0 about1) = true := by decide +kernel
set_option maxRecDepth 65536 in
theorem w_t4 : ((((words1.drop 24).drop 24).drop 24).take 24).all (fun c => isCode c || c.before args0 about1) = true := by decide +kernel
set_option maxRecDepth 65536 in
theorem w_t5 : ((((words1.drop 24).drop 24).drop 24).drop 24).all (fun c => isCode c || c.before args0 about1) = true := by decide +kernel
theorem w_tables : (allAtoms (Jvm.Cond.code x code maxLocals ret :: tables_1)).before args0 about1 = true := by
  rw [allAtoms_all]
  show words1.all (fun c => c.before args0 about1) = true
  refine all_split ?_ w_codes
  rw [← List.take_append_drop 24 words1, List.all_append, w_t1, ← List.take_append_drop 24 (words1.drop 24), List.all_append, w_t2, ← List.take_append_drop 24 ((words1.drop 24).drop 24), List.all_append, w_t3, ← List.take_append_drop 24 (((words1.drop 24).drop 24).drop 24), List.all_append, w_t4, w_t5]
  rfl
set_option maxRecDepth 65536 in
theorem w_rest : rest_1_c.before args0 about1 = true := by decide +kernel
set_option maxRecDepth 65536 in
theorem w_case : (Jvm.Cond.and given_1 narrow_1).before args0 about1 = true := by decide +kernel
theorem w_applies : (headSpec (Jvm.Cond.code x code maxLocals ret :: tables_1) room_1).applies x e0.platform about1 = true :=
  (Spec.applies_iff w_frames).mpr ⟨w_running, w_runnable, w_alone, w_named, w_hears, w_ripe, w_room, w_tables⟩
theorem atStart : AtStart classFile x code maxLocals ret World_1 tables_1 room_1 Calls_1 rest_1 Pre_1 launch0 p0 e0 about1 theMethod args0 below0 :=
  ⟨lists_1, trivial, launch0.admits_env _ _ _, launch0.least_env, fairChoices_fair.cas, fairChoices_fair.clock, w_frames, w_args, w_heap, w_applies, trivial, w_rest, w_case⟩
end start1
theorem witness_1 : WitnessClaimed_1 := ⟨start1.p0, start1.e0, start1.about1, start1.theMethod, start1.args0, start1.below0, start1.atStart⟩
end Jvm.Pilot.@@N@@
