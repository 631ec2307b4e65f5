import JvmDerived
import JvmDerived.Pilot.@@N@@Statement
import JvmDerived.Pilot.@@N@@Code
set_option linter.unusedVariables false
set_option linter.unusedSimpArgs false
namespace Jvm.RoadKit
open Sem ClassFile Op Lib Jvm.Stand Jvm.Free Jvm.LawKit
section New
variable {p : Program} {l : Launch} {e : Env} {R : Room} {s : State} {m : MethodId} {args : Array Value} {below : List Frame} {meth : Method} {c : Code} {T : State} {locs : List Loc} {cells slots : Nat}
theorem retI (X : Stand p l e R s m args below meth c T locs cells slots) (hx : p.tables.exec = Jvm.exec) {pc : Nat} {Ls : Array Slot} {z : Int32} {rest : List Value} (hret : meth.sig.returnType = some .int) (hd : decode c.code pc = .ok (.ireturn, 1)) {fs : List Frame}
    (hl : ∀ (f : JFrame) (acts : List Action), f.method = m → f.locked = none → f.entered = [] → (doReturn e (T.setTop f) acts (some (.int z))).1 = T.setFrames fs) : Steps p.tables e below (T.setTop (mkF m pc Ls (.int z :: rest))) (T.setFrames fs) := by
  have hm' : T.vm.method? m = some meth := X.method'
  have hn : narrow .int (.int z) = .int z := rfl
  show Steps p.tables e below (T.setTop { method := m, pc := pc, locals := Ls, stack := _ :: rest, locked := none }) _
  jvm_step X.here [X.here.top, hx, hd, hm', hret, hn]
  first | (intro acts; rw [hl _ acts rfl rfl rfl]) | rw [hl _ _ rfl rfl rfl]
  exact Steps.refl _
end New
end Jvm.RoadKit
namespace Jvm.Pilot.@@N@@
open Jvm Jvm.ClassFile Sem Op Lib Jvm.Free Jvm.Stand Jvm.LawKit Jvm.RoadKit Bundle Jvm.Pilot.@@N@@.Jvm.D
def QP (r : Option Value) (h0 : Heap) (n0 : Nat) (v : Option Value) (h : Heap) (L : List Loc) : Prop := v = r ∧ Fr n0 L ∧ h = h0
def QW (P : Option Value → Heap → Prop) (n0 : Nat) (v : Option Value) (h : Heap) (L : List Loc) : Prop := Fr n0 L ∧ P v h
def Q0 (n0 : Nat) (v : Option Value) (h : Heap) (L : List Loc) : Prop := v = some (.int 1) ∧ Fr n0 L
theorem own_selP {Z s : State} {a0 args : Array Value} {C : String} {y z w : MethodName} (hZ : Z.Warmed39 s.vm) (hs : (Jvm.Cond.selects C z w).before a0 Z = true) (he : w.cls = y.cls) (hp : (Jvm.Cond.privateMethod y).before a0 Z = true) (hi : (Jvm.Cond.instanceMethod y).before a0 Z = true) (hy : y.cls ≠ "java/lang/invoke/MethodHandle" ∧ y.cls ≠ "java/lang/invoke/VarHandle") : (Jvm.Cond.selects y.cls y y).before args s = true := by
  obtain ⟨c, r, m, -, -, k2, -, k, hk, hki⟩ := Cond.selects_spec (mvT hZ hs (args := args))
  have hc := findClass_of_methodNamed k2
  rw [he] at hc
  exact Jvm.Stand.selects_self_of_private hc hk hki (Cond.privateMethod_at (mvP hZ hp (args := #[]))) (mvT hZ hi) hy
theorem own_byte (x : Int32) : x.toInt8.toInt32.toInt8.toInt32 = x.toInt8.toInt32 := by simp
theorem own_len {s : State} {args : Array Value} {t : Term} {a : Addr} {cl : Cell} {ty : FieldType} {n : Int32} (ev : t.eval args s none [] s = some (.ref a)) (A : Arr s s.heap a cl ty) (h : (Jvm.Cond.eq (Term.length t) (Term.int n)).value args s none s [] = some true) : cl.slots.size < 2 ^ 31 ∧ cl.slots.size.toInt32 = n := by
  have e := eqv_i (Term.int_eval _) h
  have ha := A.fin (Vm.Alike.refl _)
  by_cases q : cl.slots.size < 2 ^ 31
  · refine ⟨q, ?_⟩
    rw [len_f ev ha q] at e
    cases e; rfl
  · simp [Term.eval, ev, ha, q] at e
theorem own_eqr {s : State} {args : Array Value} {t u : Term} {y : Addr} (hu : u.eval args s none [] s = some (.ref y)) (h : (Jvm.Cond.eq t u).value args s none s [] = some true) : t.eval args s none [] s = some (.ref y) := by
  obtain ⟨x, y', e1, e2, k1, k2⟩ := cmp_v (Or.inl h)
  cases hu.symm.trans e2
  have hx : x.isRef = true := k2.2
  exact e1.trans (congrArg some (gotT (eq_R e1 hu hx rfl) h))
theorem own_sta_idx {s : State} {args : Array Value} {C n d : String} {v : Value} (h : (Term.static C n d).eval args s none [] s = some v) {idx : List Nat} : (Term.static C n d).eval args s none idx s = some v := h
theorem own_idx {s : State} {args : Array Value} {j : Int32} (hj : ¬ j < 0) : (Term.sub (Term.index 0) (Term.int 128)).eval args s none [j.toNatClampNeg] s = some (.int (j - (128 : Int32))) := by
  have e := idx_at (args := args) (s := s) (first := s) (o := none) hj
  show (do let x ← (Term.index 0).eval args s none [j.toNatClampNeg] s; let y ← (Term.int 128).eval args s none [j.toNatClampNeg] s; _) = _
  rw [e]; rfl
theorem own_plus1 {s : State} {args : Array Value} {t : Term} {a : Addr} {cl : Cell} {n : Int32} (hf : Fit s) (et : ∀ idx, t.eval args s none idx s = some (.ref a)) (A : Arr s s.heap a cl .int) (sz : cl.slots.size < 2 ^ 31) (z : cl.slots.size.toInt32 = n)
    (h : (Jvm.Cond.all t (.eq (.op1 .i2l (.elem t (.index 0))) (.op2 .ladd (.op1 .i2l (.index 0)) (.long 1)))).value args s none s [] = some true) (i : Nat) (k : Int32) (hi : i < n.toNatClampNeg) (hk : k.toInt64 = i.toInt32.toInt64 + 1) : cl.slots[i]? = some (.int k) := by
  have S : cl.slots.size = n.toNatClampNeg := by rw [← z]; simp only [Int32.toNatClampNeg, len_toInt sz]; rfl
  have hi' : i < cl.slots.size := S ▸ hi
  have e1 : (Nat.toInt32 i).toNatClampNeg = i := by simp only [Int32.toNatClampNeg, len_toInt (Nat.lt_trans hi' sz)]; rfl
  have hin : ¬ (i.toInt32 < 0 ∨ cl.slots.size ≤ i.toInt32.toNatClampNeg) := idx_in hi' sz
  have nn : ¬ i.toInt32 < 0 := fun q => hin (Or.inl q)
  have u := Cond.all_elim (et []) (A.fin (Vm.Alike.refl _)) h i hi'
  obtain ⟨v, hv, hfv⟩ := elem_fit hf A hin
  obtain ⟨x, rfl⟩ := fit_I hfv (Or.inl rfl)
  have ix : (Term.index 0).eval args s none [i] s = some (.int i.toInt32) := by
    have := idx_at (args := args) (s := s) (first := s) (o := none) nn
    rwa [e1] at this
  have el : (Term.elem t (.index 0)).eval args s none [i] s = some (.int x) := (elem_f (et _) ix (A.fin (Vm.Alike.refl _)) nn).trans hv
  have l1 := i2l_at el
  have l2 : (Term.op2 .ladd (.op1 .i2l (.index 0)) (.long 1)).eval args s none [i] s = some (.long (i.toInt32.toInt64 + 1)) := by
    rw [op2_f (i2l_at ix) (long_at 1)]; rfl
  have e := gotT (eq_L l1 l2) u
  have ex : x = k := by
    apply Int32.toInt_inj.mp
    have q := congrArg Int64.toInt (e.trans hk.symm)
    rwa [Int32.toInt_toInt64, Int32.toInt_toInt64] at q
  rw [e1] at hv
  rw [hv, ex]
def Wd (Z : State) (w_n5 : Addr) (w_n10 : Addr) (w_OK : Addr) (w_n1 : Addr) (w_n2 : Addr) (w_n4 : Addr) (w_n9 : Addr) (w_n6 : Addr) (w_n0 : Addr) (w_n7 : Addr) (w_n8 : Addr) (w_n3 : Addr) (w_n11 : Addr) (k_n10 : ClassId) : Prop := Sta Z Z.heap "com/example/usher/usher/wire/ErrorCode" "UNIMPLEMENTED" "Lcom/example/usher/usher/wire/ErrorCode;" (.ref w_n5) ∧ Exa Z Z.heap w_n5 "com/example/usher/usher/wire/ErrorCode" ∧ Sta Z Z.heap "com/example/usher/usher/wire/ErrorCode" "VALUES" "[Lcom/example/usher/usher/wire/ErrorCode;" (.ref w_n10) ∧ Sta Z Z.heap "com/example/usher/usher/wire/ErrorCode" "OK" "Lcom/example/usher/usher/wire/ErrorCode;" (.ref w_OK) ∧ Exa Z Z.heap w_OK "com/example/usher/usher/wire/ErrorCode" ∧ Sta Z Z.heap "com/example/usher/usher/wire/ErrorCode" "RUNTIME_INCONSISTENCY" "Lcom/example/usher/usher/wire/ErrorCode;" (.ref w_n1) ∧ Exa Z Z.heap w_n1 "com/example/usher/usher/wire/ErrorCode" ∧ Sta Z Z.heap "com/example/usher/usher/wire/ErrorCode" "MARSHALLING_ERROR" "Lcom/example/usher/usher/wire/ErrorCode;" (.ref w_n2) ∧ Exa Z Z.heap w_n2 "com/example/usher/usher/wire/ErrorCode" ∧ Sta Z Z.heap "com/example/usher/usher/wire/ErrorCode" "BAD_ARGUMENTS" "Lcom/example/usher/usher/wire/ErrorCode;" (.ref w_n4) ∧ Exa Z Z.heap w_n4 "com/example/usher/usher/wire/ErrorCode" ∧ Sta Z Z.heap "com/example/usher/usher/wire/ErrorCode" "NO_NODE" "Lcom/example/usher/usher/wire/ErrorCode;" (.ref w_n9) ∧ Exa Z Z.heap w_n9 "com/example/usher/usher/wire/ErrorCode" ∧ Sta Z Z.heap "com/example/usher/usher/wire/ErrorCode" "BAD_VERSION" "Lcom/example/usher/usher/wire/ErrorCode;" (.ref w_n6) ∧ Exa Z Z.heap w_n6 "com/example/usher/usher/wire/ErrorCode" ∧ Sta Z Z.heap "com/example/usher/usher/wire/ErrorCode" "NO_CHILDREN_FOR_EPHEMERALS" "Lcom/example/usher/usher/wire/ErrorCode;" (.ref w_n0) ∧ Exa Z Z.heap w_n0 "com/example/usher/usher/wire/ErrorCode" ∧ Sta Z Z.heap "com/example/usher/usher/wire/ErrorCode" "NODE_EXISTS" "Lcom/example/usher/usher/wire/ErrorCode;" (.ref w_n7) ∧ Exa Z Z.heap w_n7 "com/example/usher/usher/wire/ErrorCode" ∧ Sta Z Z.heap "com/example/usher/usher/wire/ErrorCode" "NOT_EMPTY" "Lcom/example/usher/usher/wire/ErrorCode;" (.ref w_n8) ∧ Exa Z Z.heap w_n8 "com/example/usher/usher/wire/ErrorCode" ∧ Sta Z Z.heap "com/example/usher/usher/wire/ErrorCode" "SESSION_EXPIRED" "Lcom/example/usher/usher/wire/ErrorCode;" (.ref w_n3) ∧ Exa Z Z.heap w_n3 "com/example/usher/usher/wire/ErrorCode" ∧ Sta Z Z.heap "java/util/Optional" "EMPTY" "Ljava/util/Optional;" (.ref w_n11) ∧ Exa Z Z.heap w_n11 "java/util/Optional" ∧ Fld Z Z.heap w_OK "com/example/usher/usher/wire/ErrorCode" "code" "I" (.int (0 : Int32)) ∧ Fld Z Z.heap w_n5 "com/example/usher/usher/wire/ErrorCode" "code" "I" (.int (-6 : Int32)) ∧ Fld Z Z.heap w_n1 "com/example/usher/usher/wire/ErrorCode" "code" "I" (.int (-2 : Int32)) ∧ Fld Z Z.heap w_n2 "com/example/usher/usher/wire/ErrorCode" "code" "I" (.int (-5 : Int32)) ∧ Fld Z Z.heap w_n4 "com/example/usher/usher/wire/ErrorCode" "code" "I" (.int (-8 : Int32)) ∧ Fld Z Z.heap w_n9 "com/example/usher/usher/wire/ErrorCode" "code" "I" (.int (-101 : Int32)) ∧ Fld Z Z.heap w_n6 "com/example/usher/usher/wire/ErrorCode" "code" "I" (.int (-103 : Int32)) ∧ Fld Z Z.heap w_n0 "com/example/usher/usher/wire/ErrorCode" "code" "I" (.int (-108 : Int32)) ∧ Fld Z Z.heap w_n7 "com/example/usher/usher/wire/ErrorCode" "code" "I" (.int (-110 : Int32)) ∧ Fld Z Z.heap w_n8 "com/example/usher/usher/wire/ErrorCode" "code" "I" (.int (-111 : Int32)) ∧ Fld Z Z.heap w_n3 "com/example/usher/usher/wire/ErrorCode" "code" "I" (.int (-112 : Int32)) ∧ Fld Z Z.heap w_n11 "java/util/Optional" "value" "Ljava/lang/Object;" .null ∧ Arv Z Z.heap w_n10 k_n10 (.object "com/example/usher/usher/wire/ErrorCode") (11 : Int32) [(.ref w_OK), (.ref w_n1), (.ref w_n2), (.ref w_n5), (.ref w_n4), (.ref w_n9), (.ref w_n6), (.ref w_n0), (.ref w_n7), (.ref w_n8), (.ref w_n3)] .null
set_option maxRecDepth 65536 in
set_option maxHeartbeats 4000000 in
theorem wd_start {s : State} {a0 : Array Value} (hfit : Fit s) (hw : ∀ d ∈ tables_1, d.before a0 s = true) (hsets : ∀ d ∈ jdkStatics_1, d.before a0 s = true) (hn : narrow_1.value a0 s none s [] = some true) : ∃ (w_n5 : Addr) (w_n10 : Addr) (w_OK : Addr) (w_n1 : Addr) (w_n2 : Addr) (w_n4 : Addr) (w_n9 : Addr) (w_n6 : Addr) (w_n0 : Addr) (w_n7 : Addr) (w_n8 : Addr) (w_n3 : Addr) (w_n11 : Addr) (k_n10 : ClassId), Wd s w_n5 w_n10 w_OK w_n1 w_n2 w_n4 w_n9 w_n6 w_n0 w_n7 w_n8 w_n3 w_n11 k_n10 := by
  obtain ⟨q0, hn0⟩ := and_e hn
  obtain ⟨q1, hn1⟩ := and_e hn0
  obtain ⟨q2, hn2⟩ := and_e hn1
  obtain ⟨q3, hn3⟩ := and_e hn2
  obtain ⟨q4, hn4⟩ := and_e hn3
  obtain ⟨q5, hn5⟩ := and_e hn4
  obtain ⟨q6, hn6⟩ := and_e hn5
  obtain ⟨q7, hn7⟩ := and_e hn6
  obtain ⟨q8, hn8⟩ := and_e hn7
  obtain ⟨q9, hn9⟩ := and_e hn8
  obtain ⟨q10, hn10⟩ := and_e hn9
  obtain ⟨q11, hn11⟩ := and_e hn10
  obtain ⟨q12, hn12⟩ := and_e hn11
  obtain ⟨q13, hn13⟩ := and_e hn12
  obtain ⟨q14, hn14⟩ := and_e hn13
  obtain ⟨q15, hn15⟩ := and_e hn14
  obtain ⟨q16, hn16⟩ := and_e hn15
  obtain ⟨q17, hn17⟩ := and_e hn16
  obtain ⟨q18, hn18⟩ := and_e hn17
  obtain ⟨q19, hn19⟩ := and_e hn18
  obtain ⟨q20, hn20⟩ := and_e hn19
  obtain ⟨q21, hn21⟩ := and_e hn20
  obtain ⟨q22, hn22⟩ := and_e hn21
  obtain ⟨q23, hn23⟩ := and_e hn22
  obtain ⟨q24, hn24⟩ := and_e hn23
  obtain ⟨q25, hn25⟩ := and_e hn24
  obtain ⟨q26, hn26⟩ := and_e hn25
  obtain ⟨q27, hn27⟩ := and_e hn26
  obtain ⟨q28, hn28⟩ := and_e hn27
  obtain ⟨q29, hn29⟩ := and_e hn28
  obtain ⟨q30, hn30⟩ := and_e hn29
  obtain ⟨q31, hn31⟩ := and_e hn30
  obtain ⟨q32, hn32⟩ := and_e hn31
  obtain ⟨q33, hn33⟩ := and_e hn32
  have q34 := hn33
  obtain ⟨w_n5, ew_n5⟩ := exa_v q0
  have S_n5 := Sta.start ew_n5 (Or.inr ⟨(hw _ (List.mem_of_getElem? (i := 6) rfl)), (hw _ (List.mem_of_getElem? (i := 7) rfl))⟩)
  have E_n5 := Exa.start ew_n5 q0
  obtain ⟨w_n10, ew_n10⟩ := arr_v q1
  have S_n10 := Sta.start ew_n10 (Or.inr ⟨(hw _ (List.mem_of_getElem? (i := 6) rfl)), (hw _ (List.mem_of_getElem? (i := 12) rfl))⟩)
  obtain ⟨cl_n10, A_n10⟩ := Arr.start ew_n10 q1
  obtain ⟨w_OK, ew_OK⟩ := exa_v q3
  have S_OK := Sta.start ew_OK (Or.inr ⟨(hw _ (List.mem_of_getElem? (i := 6) rfl)), (hw _ (List.mem_of_getElem? (i := 13) rfl))⟩)
  have E_OK := Exa.start ew_OK q3
  obtain ⟨w_n1, ew_n1⟩ := exa_v q7
  have S_n1 := Sta.start ew_n1 (Or.inr ⟨(hw _ (List.mem_of_getElem? (i := 6) rfl)), (hw _ (List.mem_of_getElem? (i := 40) rfl))⟩)
  have E_n1 := Exa.start ew_n1 q7
  obtain ⟨w_n2, ew_n2⟩ := exa_v q10
  have S_n2 := Sta.start ew_n2 (Or.inr ⟨(hw _ (List.mem_of_getElem? (i := 6) rfl)), (hw _ (List.mem_of_getElem? (i := 41) rfl))⟩)
  have E_n2 := Exa.start ew_n2 q10
  obtain ⟨w_n4, ew_n4⟩ := exa_v q14
  have S_n4 := Sta.start ew_n4 (Or.inr ⟨(hw _ (List.mem_of_getElem? (i := 6) rfl)), (hw _ (List.mem_of_getElem? (i := 55) rfl))⟩)
  have E_n4 := Exa.start ew_n4 q14
  obtain ⟨w_n9, ew_n9⟩ := exa_v q17
  have S_n9 := Sta.start ew_n9 (Or.inr ⟨(hw _ (List.mem_of_getElem? (i := 6) rfl)), (hw _ (List.mem_of_getElem? (i := 56) rfl))⟩)
  have E_n9 := Exa.start ew_n9 q17
  obtain ⟨w_n6, ew_n6⟩ := exa_v q20
  have S_n6 := Sta.start ew_n6 (Or.inr ⟨(hw _ (List.mem_of_getElem? (i := 6) rfl)), (hw _ (List.mem_of_getElem? (i := 57) rfl))⟩)
  have E_n6 := Exa.start ew_n6 q20
  obtain ⟨w_n0, ew_n0⟩ := exa_v q23
  have S_n0 := Sta.start ew_n0 (Or.inr ⟨(hw _ (List.mem_of_getElem? (i := 6) rfl)), (hw _ (List.mem_of_getElem? (i := 58) rfl))⟩)
  have E_n0 := Exa.start ew_n0 q23
  obtain ⟨w_n7, ew_n7⟩ := exa_v q26
  have S_n7 := Sta.start ew_n7 (Or.inr ⟨(hw _ (List.mem_of_getElem? (i := 6) rfl)), (hw _ (List.mem_of_getElem? (i := 59) rfl))⟩)
  have E_n7 := Exa.start ew_n7 q26
  obtain ⟨w_n8, ew_n8⟩ := exa_v q29
  have S_n8 := Sta.start ew_n8 (Or.inr ⟨(hw _ (List.mem_of_getElem? (i := 6) rfl)), (hw _ (List.mem_of_getElem? (i := 60) rfl))⟩)
  have E_n8 := Exa.start ew_n8 q29
  obtain ⟨w_n3, ew_n3⟩ := exa_v q32
  have S_n3 := Sta.start ew_n3 (Or.inr ⟨(hw _ (List.mem_of_getElem? (i := 6) rfl)), (hw _ (List.mem_of_getElem? (i := 61) rfl))⟩)
  have E_n3 := Exa.start ew_n3 q32
  obtain ⟨w_n11, ew_n11⟩ := exa_v (Cond.before_iff.mp (hsets _ (List.mem_of_getElem? (i := 2) rfl)))
  have S_n11 := Sta.start ew_n11 (Or.inl (hsets _ (List.mem_of_getElem? (i := 1) rfl)))
  have E_n11 := Exa.start ew_n11 (Cond.before_iff.mp (hsets _ (List.mem_of_getElem? (i := 2) rfl)))
  have F_OK_code := Fld.start ((fld_at ew_OK).symm.trans (eqv_i (Term.int_eval _) q5))
  have F_n5_code := Fld.start ((fld_at ew_n5).symm.trans (eqv_i (Term.int_eval _) q6))
  have F_n1_code := Fld.start ((fld_at ew_n1).symm.trans (eqv_i (Term.int_eval _) q9))
  have F_n2_code := Fld.start ((fld_at ew_n2).symm.trans (eqv_i (Term.int_eval _) q12))
  have F_n4_code := Fld.start ((fld_at ew_n4).symm.trans (eqv_i (Term.int_eval _) q16))
  have F_n9_code := Fld.start ((fld_at ew_n9).symm.trans (eqv_i (Term.int_eval _) q19))
  have F_n6_code := Fld.start ((fld_at ew_n6).symm.trans (eqv_i (Term.int_eval _) q22))
  have F_n0_code := Fld.start ((fld_at ew_n0).symm.trans (eqv_i (Term.int_eval _) q25))
  have F_n7_code := Fld.start ((fld_at ew_n7).symm.trans (eqv_i (Term.int_eval _) q28))
  have F_n8_code := Fld.start ((fld_at ew_n8).symm.trans (eqv_i (Term.int_eval _) q31))
  have F_n3_code := Fld.start ((fld_at ew_n3).symm.trans (eqv_i (Term.int_eval _) q34))
  have F_n11_value := Fld.start ((fld_at ew_n11).symm.trans (null_v (Cond.before_iff.mp (hsets _ (List.mem_of_getElem? (i := 3) rfl)))))
  obtain ⟨sz_n10, z_n10⟩ := own_len ew_n10 A_n10 q2
  have el_n10_0 := (elem_in (own_eqr ew_OK q4) ew_n10 (Term.int_eval _) A_n10.1).2
  have el_n10_1 := (elem_in (own_eqr ew_n1 q8) ew_n10 (Term.int_eval _) A_n10.1).2
  have el_n10_2 := (elem_in (own_eqr ew_n2 q11) ew_n10 (Term.int_eval _) A_n10.1).2
  have el_n10_3 := (elem_in (own_eqr ew_n5 q13) ew_n10 (Term.int_eval _) A_n10.1).2
  have el_n10_4 := (elem_in (own_eqr ew_n4 q15) ew_n10 (Term.int_eval _) A_n10.1).2
  have el_n10_5 := (elem_in (own_eqr ew_n9 q18) ew_n10 (Term.int_eval _) A_n10.1).2
  have el_n10_6 := (elem_in (own_eqr ew_n6 q21) ew_n10 (Term.int_eval _) A_n10.1).2
  have el_n10_7 := (elem_in (own_eqr ew_n0 q24) ew_n10 (Term.int_eval _) A_n10.1).2
  have el_n10_8 := (elem_in (own_eqr ew_n7 q27) ew_n10 (Term.int_eval _) A_n10.1).2
  have el_n10_9 := (elem_in (own_eqr ew_n8 q30) ew_n10 (Term.int_eval _) A_n10.1).2
  have el_n10_10 := (elem_in (own_eqr ew_n3 q33) ew_n10 (Term.int_eval _) A_n10.1).2
  obtain ⟨k_n10, k_n10_e⟩ : ∃ z, z = cl_n10.cls := ⟨_, rfl⟩
  have V_n10 : Arv s s.heap w_n10 k_n10 (.object "com/example/usher/usher/wire/ErrorCode") (11 : Int32) [(.ref w_OK), (.ref w_n1), (.ref w_n2), (.ref w_n5), (.ref w_n4), (.ref w_n9), (.ref w_n6), (.ref w_n0), (.ref w_n7), (.ref w_n8), (.ref w_n3)] .null := by rw [k_n10_e]; exact Arv.start hfit A_n10 sz_n10 z_n10 (by decide) rfl (by simp only [HasL]; exact ⟨el_n10_0, el_n10_1, el_n10_2, el_n10_3, el_n10_4, el_n10_5, el_n10_6, el_n10_7, el_n10_8, el_n10_9, el_n10_10, trivial⟩)
  exact ⟨w_n5, w_n10, w_OK, w_n1, w_n2, w_n4, w_n9, w_n6, w_n0, w_n7, w_n8, w_n3, w_n11, k_n10, S_n5, E_n5, S_n10, S_OK, E_OK, S_n1, E_n1, S_n2, E_n2, S_n4, E_n4, S_n9, E_n9, S_n6, E_n6, S_n0, E_n0, S_n7, E_n7, S_n8, E_n8, S_n3, E_n3, S_n11, E_n11, F_OK_code, F_n5_code, F_n1_code, F_n2_code, F_n4_code, F_n9_code, F_n6_code, F_n0_code, F_n7_code, F_n8_code, F_n3_code, F_n11_value, V_n10⟩
def exC (w_OK w_n1 w_n2 w_n5 w_n4 w_n9 w_n6 w_n0 w_n7 w_n8 w_n3 : Addr) (c : Int32) : Value := if c = (0 : Int32) then .ref w_OK else if c = (-2 : Int32) then .ref w_n1 else if c = (-5 : Int32) then .ref w_n2 else if c = (-6 : Int32) then .ref w_n5 else if c = (-8 : Int32) then .ref w_n4 else if c = (-101 : Int32) then .ref w_n9 else if c = (-103 : Int32) then .ref w_n6 else if c = (-108 : Int32) then .ref w_n0 else if c = (-110 : Int32) then .ref w_n7 else if c = (-111 : Int32) then .ref w_n8 else if c = (-112 : Int32) then .ref w_n3 else .null
def pkC (w_OK w_n1 w_n2 w_n5 w_n4 w_n9 w_n6 w_n0 w_n7 w_n8 w_n3 : Addr) (c : Int32) : Addr := if c = (0 : Int32) then w_OK else if c = (1 : Int32) then w_n1 else if c = (2 : Int32) then w_n2 else if c = (3 : Int32) then w_n5 else if c = (4 : Int32) then w_n4 else if c = (5 : Int32) then w_n9 else if c = (6 : Int32) then w_n6 else if c = (7 : Int32) then w_n0 else if c = (8 : Int32) then w_n7 else if c = (9 : Int32) then w_n8 else w_n3
theorem exC_cases (w_OK w_n1 w_n2 w_n5 w_n4 w_n9 w_n6 w_n0 w_n7 w_n8 w_n3 : Addr) (c : Int32) : (∃ u, exC w_OK w_n1 w_n2 w_n5 w_n4 w_n9 w_n6 w_n0 w_n7 w_n8 w_n3 c = .ref u) ∨ exC w_OK w_n1 w_n2 w_n5 w_n4 w_n9 w_n6 w_n0 w_n7 w_n8 w_n3 c = .null := by
  unfold exC
  by_cases h0 : c = (0 : Int32)
  · exact Or.inl ⟨w_OK, by simp [h0]⟩
  by_cases h1 : c = (-2 : Int32)
  · exact Or.inl ⟨w_n1, by simp [h1]⟩
  by_cases h2 : c = (-5 : Int32)
  · exact Or.inl ⟨w_n2, by simp [h2]⟩
  by_cases h3 : c = (-6 : Int32)
  · exact Or.inl ⟨w_n5, by simp [h3]⟩
  by_cases h4 : c = (-8 : Int32)
  · exact Or.inl ⟨w_n4, by simp [h4]⟩
  by_cases h5 : c = (-101 : Int32)
  · exact Or.inl ⟨w_n9, by simp [h5]⟩
  by_cases h6 : c = (-103 : Int32)
  · exact Or.inl ⟨w_n6, by simp [h6]⟩
  by_cases h7 : c = (-108 : Int32)
  · exact Or.inl ⟨w_n0, by simp [h7]⟩
  by_cases h8 : c = (-110 : Int32)
  · exact Or.inl ⟨w_n7, by simp [h8]⟩
  by_cases h9 : c = (-111 : Int32)
  · exact Or.inl ⟨w_n8, by simp [h9]⟩
  by_cases h10 : c = (-112 : Int32)
  · exact Or.inl ⟨w_n3, by simp [h10]⟩
  exact Or.inr (by simp [h0, h1, h2, h3, h4, h5, h6, h7, h8, h9, h10])
theorem d4_0 : decode jdk_31_method_10_code 0 = .ok (.aload_n 0, 1) := by decide +kernel
theorem d4_1 : decode jdk_31_method_10_code 1 = .ok (.ifnonnull 11, 3) := by decide +kernel
theorem d4_12 : decode jdk_31_method_10_code 12 = .ok (.aload_n 0, 1) := by decide +kernel
theorem d4_13 : decode jdk_31_method_10_code 13 = .ok (.areturn, 1) := by decide +kernel
theorem ef_4_0 (m : MethodId) (x0 : Addr) : entryFrame m #[(.ref x0)] 1 = mkF m 0 #[.val (.ref x0)] [] := by first | (simp [entryFrame, mkF, argsToLocals, Value.category]; done) | rfl
theorem pn_4 : plainName "java/util/Objects" = true := by first | (simp [plainName, overriddenIn]; done) | decide +kernel
set_option maxRecDepth 65536 in
set_option maxHeartbeats 40000000 in
theorem rm_rnn (l : Launch) (Z : State) (a0 : Array Value) (hw : ∀ d ∈ tables_1, d.before a0 Z = true) (ws : List Jvm.Cond) {w_n5 : Addr} {w_n10 : Addr} {w_OK : Addr} {w_n1 : Addr} {w_n2 : Addr} {w_n4 : Addr} {w_n9 : Addr} {w_n6 : Addr} {w_n0 : Addr} {w_n7 : Addr} {w_n8 : Addr} {w_n3 : Addr} {w_n11 : Addr} {k_n10 : ClassId} (W : Wd Z w_n5 w_n10 w_OK w_n1 w_n2 w_n4 w_n9 w_n6 w_n0 w_n7 w_n8 w_n3 w_n11 k_n10) (a1 : Addr) (h0 : Heap) (n0 : Nat) (O0 : Old Z n0 h0) :
    MetFree l (⟨"java/util/Objects", "requireNonNull", "(Ljava/lang/Object;)Ljava/lang/Object;"⟩ : MethodName) (head1 (Jvm.Cond.code (⟨"java/util/Objects", "requireNonNull", "(Ljava/lang/Object;)Ljava/lang/Object;"⟩ : MethodName) jdk_31_method_10_code 1 (some (.object "java/lang/Object")) :: ws) ({ frames := 0, cells := 0, slots := 0, locals := 0 } : Room)) (fun a U => a = #[(.ref a1)] ∧ Z.Warmed39 U.vm ∧ U.heap = h0) (fun _ _ _ _ _ => True) (fun _ U o U' => ∃ v L, o = .returned v ∧ QP (some (.ref a1)) h0 n0 v U'.heap L ∧ FrameEnd U o U' L ({ frames := 0, cells := 0, slots := 0, locals := 0 } : Room).cells ({ frames := 0, cells := 0, slots := 0, locals := 0 } : Room).slots) := by
  have W' := W; obtain ⟨S_n5, E_n5, S_n10, S_OK, E_OK, S_n1, E_n1, S_n2, E_n2, S_n4, E_n4, S_n9, E_n9, S_n6, E_n6, S_n0, E_n0, S_n7, E_n7, S_n8, E_n8, S_n3, E_n3, S_n11, E_n11, F_OK_code, F_n5_code, F_n1_code, F_n2_code, F_n4_code, F_n9_code, F_n6_code, F_n0_code, F_n7_code, F_n8_code, F_n3_code, F_n11_value, V_n10⟩ := W'
  refine MetFree.of_bodySF (plainFor_of_name pn_4) hisR ?_
  intro p e s m args below meth c s₁ Bd hml0 hP hK
  obtain ⟨rfl, hZ, hh⟩ := hP
  have hx := Bd.exec
  have hby := Bd.bytes
  have hml : c.maxLocals = 1 := hml0
  have hown : s.vm.findClass "java/util/Objects" = some m.cls := findClass_of_methodNamed Bd.named
  have hnm := (name_of_methodNamed Bd.named Bd.method).1
  have X0 : Stand p l e ({ frames := 0, cells := 0, slots := 0, locals := 0 } : Room) s m #[(.ref a1)] below meth c s₁ [] 0 0 := Stand.of_body Bd
  have e0 : s₁.heap = h0 := by rw [← hh, Bd.state]; rfl
  have N0 := Fr.nil n0
  have pre0 : ∀ t, Steps p.tables e below (s₁.setTop (mkF m 0 #[.val (.ref a1)] [])) t → Steps p.tables e below (s₁.setTop (entryFrame m #[(.ref a1)] 1)) t := fun t k => castTop (ef_4_0 m a1) k
  obtain ⟨fs, hr, hrun, hended, hW, hsame⟩ := X0.leave (v := some (.ref a1)) (fun h => by rw [Bd.returns] at h; cases h)
  refine ⟨_, _, pre0 _ ?_, hrun, hended, _, _, rfl, ?_, ⟨_, rfl⟩, hW, hsame.mono (by decide) (by decide)⟩
  · show Steps p.tables e below (s₁.setTop (mkF m 0 #[.val (.ref a1)] [])) _
    refine XS.aloadN X0.here hx rfl (hb hby d4_0) rfl rfl ?_
    show Steps p.tables e below (s₁.setTop (mkF m 1 #[.val (.ref a1)] [(.ref a1)])) _
    refine XS.ifnonnullYes X0.here hx rfl (pc0 := 1) (pc' := 12) rfl (hb hby d4_1) rfl (by decide) (by decide) ?_
    show Steps p.tables e below (s₁.setTop (mkF m 12 #[.val (.ref a1)] [])) _
    refine XS.aloadN X0.here hx rfl (hb hby d4_12) rfl rfl ?_
    show Steps p.tables e below (s₁.setTop (mkF m 13 #[.val (.ref a1)] [(.ref a1)])) _
    jvm_step X0.here [X0.here.top, hx, (hb hby d4_13), X0.method', Bd.returns, Value.isRef, FieldType.isReference]
    first | (intro acts; rw [hr _ acts rfl rfl rfl]) | rw [hr _ _ rfl rfl rfl]
    exact Steps.refl _
  · show QP (some (.ref a1)) h0 n0 _ s₁.heap _
    rw [e0]
    exact ⟨rfl, N0, rfl⟩
theorem d5_0 : decode jdk_32_method_2_code 0 = .ok (.aload_n 0, 1) := by decide +kernel
theorem d5_1 : decode jdk_32_method_2_code 1 = .ok (.invokespecial 7, 3) := by decide +kernel
theorem d5_4 : decode jdk_32_method_2_code 4 = .ok (.aload_n 0, 1) := by decide +kernel
theorem d5_5 : decode jdk_32_method_2_code 5 = .ok (.aload_n 1, 1) := by decide +kernel
theorem d5_6 : decode jdk_32_method_2_code 6 = .ok (.putfield 13, 3) := by decide +kernel
theorem d5_9 : decode jdk_32_method_2_code 9 = .ok (.return_, 1) := by decide +kernel
theorem ef_5_1 (m : MethodId) (x0 : Addr) (x1 : Addr) : entryFrame m #[(.ref x0), (.ref x1)] 2 = mkF m 0 #[.val (.ref x0), .val (.ref x1)] [] := by first | (simp [entryFrame, mkF, argsToLocals, Value.category]; done) | rfl
theorem pn_5 : plainName "java/util/Optional" = true := by first | (simp [plainName, overriddenIn]; done) | decide +kernel
set_option maxRecDepth 65536 in
set_option maxHeartbeats 40000000 in
theorem rm_oin (l : Launch) (Z : State) (a0 : Array Value) (hw : ∀ d ∈ tables_1, d.before a0 Z = true) (ws : List Jvm.Cond) {w_n5 : Addr} {w_n10 : Addr} {w_OK : Addr} {w_n1 : Addr} {w_n2 : Addr} {w_n4 : Addr} {w_n9 : Addr} {w_n6 : Addr} {w_n0 : Addr} {w_n7 : Addr} {w_n8 : Addr} {w_n3 : Addr} {w_n11 : Addr} {k_n10 : ClassId} (W : Wd Z w_n5 w_n10 w_OK w_n1 w_n2 w_n4 w_n9 w_n6 w_n0 w_n7 w_n8 w_n3 w_n11 k_n10) (a1 : Addr) (a2 : Addr) (h0 : Heap) (n0 : Nat) (O0 : Old Z n0 h0) (g_a1 : n0 ≤ a1) (hf0 : Exa Z h0 a1 "java/util/Optional") (hf1 : Fld Z h0 a1 "java/util/Optional" "value" "Ljava/lang/Object;" .null) :
    MetFree l (⟨"java/util/Optional", "<init>", "(Ljava/lang/Object;)V"⟩ : MethodName) (head1 (Jvm.Cond.code (⟨"java/util/Optional", "<init>", "(Ljava/lang/Object;)V"⟩ : MethodName) jdk_32_method_2_code 2 none :: ws) ({ frames := 1, cells := 0, slots := 0, locals := 12 } : Room)) (fun a U => a = #[(.ref a1), (.ref a2)] ∧ Z.Warmed39 U.vm ∧ U.heap = h0) (fun _ _ _ _ _ => True) (fun _ U o U' => ∃ v L, o = .returned v ∧ QW (fun v h => v = none ∧ Keep h0 h [a1] ∧ Exa Z h a1 "java/util/Optional" ∧ Fld Z h a1 "java/util/Optional" "value" "Ljava/lang/Object;" (.ref a2)) n0 v U'.heap L ∧ FrameEnd U o U' L ({ frames := 1, cells := 0, slots := 0, locals := 12 } : Room).cells ({ frames := 1, cells := 0, slots := 0, locals := 12 } : Room).slots) := by
  have W' := W; obtain ⟨S_n5, E_n5, S_n10, S_OK, E_OK, S_n1, E_n1, S_n2, E_n2, S_n4, E_n4, S_n9, E_n9, S_n6, E_n6, S_n0, E_n0, S_n7, E_n7, S_n8, E_n8, S_n3, E_n3, S_n11, E_n11, F_OK_code, F_n5_code, F_n1_code, F_n2_code, F_n4_code, F_n9_code, F_n6_code, F_n0_code, F_n7_code, F_n8_code, F_n3_code, F_n11_value, V_n10⟩ := W'
  refine MetFree.of_bodySF (plainFor_of_name pn_5) hisR ?_
  intro p e s m args below meth c s₁ Bd hml0 hP hK
  obtain ⟨rfl, hZ, hh⟩ := hP
  have hx := Bd.exec
  have hby := Bd.bytes
  have hml : c.maxLocals = 2 := hml0
  have hown : s.vm.findClass "java/util/Optional" = some m.cls := findClass_of_methodNamed Bd.named
  have hnm := (name_of_methodNamed Bd.named Bd.method).1
  have X0 : Stand p l e ({ frames := 1, cells := 0, slots := 0, locals := 12 } : Room) s m #[(.ref a1), (.ref a2)] below meth c s₁ [] 0 0 := Stand.of_body Bd
  have e0 : s₁.heap = h0 := by rw [← hh, Bd.state]; rfl
  have N0 := Fr.nil n0
  have pre0 : ∀ t, Steps p.tables e below (s₁.setTop (mkF m 0 #[.val (.ref a1), .val (.ref a2)] [])) t → Steps p.tables e below (s₁.setTop (entryFrame m #[(.ref a1), (.ref a2)] 2)) t := fun t k => castTop (ef_5_1 m a1 a2) k
  obtain ⟨T1, X1, e1, st1⟩ := initO X0 hx hZ hown (hw _ (List.mem_of_getElem? (i := 30) rfl)) (hw _ (List.mem_of_getElem? (i := 31) rfl)) (hw _ (List.mem_of_getElem? (i := 32) rfl)) e0 (g := (mkF m 1 #[.val (.ref a1), .val (.ref a2)] [(.ref a1)])) rfl (by rw [hml]; rfl) rfl (hb hby d5_1) (by decide) (W := 0) (by show 2 * 0 + _ ≤ _; exact Nat.le_of_eq rfl) (by decide)
  obtain ⟨T2, h2, X2, e2, W2, st2⟩ := putF X1 hx hZ hown (host := "") (Or.inl (hw _ (List.mem_of_getElem? (i := 33) rfl))) Via.refl e1 hf1 hf0 (Or.inr ⟨(hw _ (List.mem_of_getElem? (i := 34) rfl)), rfl, hnm⟩) (hw _ (List.mem_of_getElem? (i := 21) rfl)) (ty := (.object "java/lang/Object")) (by decide) rfl rfl (g := (mkF m 6 #[.val (.ref a1), .val (.ref a2)] [(.ref a2), (.ref a1)])) rfl rfl (hb hby d5_6)
  have fw2 : Fld Z h2 a1 "java/util/Optional" "value" "Ljava/lang/Object;" (.ref a2) := (hf1).same W2
  have f2_0 : Exa Z h2 a1 "java/util/Optional" := (hf0).wr W2
  have O2 := O0.wr W2 g_a1
  have N2 := Fr.snoc X2 N0 g_a1
  have K2 : Keep h0 h2 [a1] := (Keep.refl h0 [a1]).wr W2 (Or.inl (List.mem_of_getElem? (i := 0) rfl))
  obtain ⟨fs, hr, hrun, hended, hW, hsame⟩ := X2.leave (v := none) (fun _ => rfl)
  refine ⟨_, _, pre0 _ ?_, hrun, hended, _, _, rfl, ?_, ⟨_, rfl⟩, hW, hsame.mono (by decide) (by decide)⟩
  · show Steps p.tables e below (s₁.setTop (mkF m 0 #[.val (.ref a1), .val (.ref a2)] [])) _
    refine XS.aloadN X0.here hx rfl (hb hby d5_0) rfl rfl ?_
    show Steps p.tables e below (s₁.setTop (mkF m 1 #[.val (.ref a1), .val (.ref a2)] [(.ref a1)])) _
    refine st1 _ ?_
    show Steps p.tables e below (T1.setTop (mkF m 4 #[.val (.ref a1), .val (.ref a2)] [])) _
    refine XS.aloadN X1.here hx rfl (hb hby d5_4) rfl rfl ?_
    show Steps p.tables e below (T1.setTop (mkF m 5 #[.val (.ref a1), .val (.ref a2)] [(.ref a1)])) _
    refine XS.aloadN X1.here hx rfl (hb hby d5_5) rfl rfl ?_
    show Steps p.tables e below (T1.setTop (mkF m 6 #[.val (.ref a1), .val (.ref a2)] [(.ref a2), (.ref a1)])) _
    refine st2 _ ?_
    show Steps p.tables e below (T2.setTop (mkF m 9 #[.val (.ref a1), .val (.ref a2)] [])) _
    exact X2.returnOut hx Bd.returns (hb hby d5_9) hr
  · show QW (fun v h => v = none ∧ Keep h0 h [a1] ∧ Exa Z h a1 "java/util/Optional" ∧ Fld Z h a1 "java/util/Optional" "value" "Ljava/lang/Object;" (.ref a2)) n0 _ T2.heap _
    rw [e2]
    exact ⟨N2, ⟨rfl, K2, f2_0, fw2⟩⟩
theorem d3_0 : decode jdk_32_method_3_code 0 = .ok (.new 2, 3) := by decide +kernel
theorem d3_3 : decode jdk_32_method_3_code 3 = .ok (.dup, 1) := by decide +kernel
theorem d3_4 : decode jdk_32_method_3_code 4 = .ok (.aload_n 0, 1) := by decide +kernel
theorem d3_5 : decode jdk_32_method_3_code 5 = .ok (.invokestatic 17, 3) := by decide +kernel
theorem d3_8 : decode jdk_32_method_3_code 8 = .ok (.invokespecial 23, 3) := by decide +kernel
theorem d3_11 : decode jdk_32_method_3_code 11 = .ok (.areturn, 1) := by decide +kernel
theorem pd_0 : parseMethodDescriptor "(Ljava/lang/Object;)Ljava/lang/Object;" = some ⟨[(.object "java/lang/Object")], some (.object "java/lang/Object")⟩ := by decide +kernel
theorem pd_1 : parseMethodDescriptor "(Ljava/lang/Object;)V" = some ⟨[(.object "java/lang/Object")], none⟩ := by decide +kernel
theorem ef_3_2 (m : MethodId) (x0 : Addr) : entryFrame m #[(.ref x0)] 1 = mkF m 0 #[.val (.ref x0)] [] := by first | (simp [entryFrame, mkF, argsToLocals, Value.category]; done) | rfl
theorem pn_3 : plainName "java/util/Optional" = true := by first | (simp [plainName, overriddenIn]; done) | decide +kernel
set_option maxRecDepth 65536 in
set_option maxHeartbeats 40000000 in
theorem rm_of (l : Launch) (Z : State) (a0 : Array Value) (hw : ∀ d ∈ tables_1, d.before a0 Z = true) (ws : List Jvm.Cond) {w_n5 : Addr} {w_n10 : Addr} {w_OK : Addr} {w_n1 : Addr} {w_n2 : Addr} {w_n4 : Addr} {w_n9 : Addr} {w_n6 : Addr} {w_n0 : Addr} {w_n7 : Addr} {w_n8 : Addr} {w_n3 : Addr} {w_n11 : Addr} {k_n10 : ClassId} (W : Wd Z w_n5 w_n10 w_OK w_n1 w_n2 w_n4 w_n9 w_n6 w_n0 w_n7 w_n8 w_n3 w_n11 k_n10) (a1 : Addr) (h0 : Heap) (n0 : Nat) (O0 : Old Z n0 h0) :
    MetFree l (⟨"java/util/Optional", "of", "(Ljava/lang/Object;)Ljava/util/Optional;"⟩ : MethodName) (head1 (Jvm.Cond.code (⟨"java/util/Optional", "of", "(Ljava/lang/Object;)Ljava/util/Optional;"⟩ : MethodName) jdk_32_method_3_code 1 (some (.object "java/util/Optional")) :: ws) ({ frames := 2, cells := 1, slots := 1, locals := 26 } : Room)) (fun a U => a = #[(.ref a1)] ∧ Z.Warmed39 U.vm ∧ U.heap = h0) (fun _ _ _ _ _ => True) (fun _ U o U' => ∃ v L, o = .returned v ∧ QW (fun v h => ∃ b1 : Addr, v = some (.ref b1) ∧ Keep h0 h [] ∧ n0 ≤ b1 ∧ h0.size ≤ b1 ∧ Exa Z h b1 "java/util/Optional" ∧ Fld Z h b1 "java/util/Optional" "value" "Ljava/lang/Object;" (.ref a1)) n0 v U'.heap L ∧ FrameEnd U o U' L ({ frames := 2, cells := 1, slots := 1, locals := 26 } : Room).cells ({ frames := 2, cells := 1, slots := 1, locals := 26 } : Room).slots) := by
  have W' := W; obtain ⟨S_n5, E_n5, S_n10, S_OK, E_OK, S_n1, E_n1, S_n2, E_n2, S_n4, E_n4, S_n9, E_n9, S_n6, E_n6, S_n0, E_n0, S_n7, E_n7, S_n8, E_n8, S_n3, E_n3, S_n11, E_n11, F_OK_code, F_n5_code, F_n1_code, F_n2_code, F_n4_code, F_n9_code, F_n6_code, F_n0_code, F_n7_code, F_n8_code, F_n3_code, F_n11_value, V_n10⟩ := W'
  refine MetFree.of_bodySF (plainFor_of_name pn_3) hisR ?_
  intro p e s m args below meth c s₁ Bd hml0 hP hK
  obtain ⟨rfl, hZ, hh⟩ := hP
  have hx := Bd.exec
  have hby := Bd.bytes
  have hml : c.maxLocals = 1 := hml0
  have hown : s.vm.findClass "java/util/Optional" = some m.cls := findClass_of_methodNamed Bd.named
  have hnm := (name_of_methodNamed Bd.named Bd.method).1
  have X0 : Stand p l e ({ frames := 2, cells := 1, slots := 1, locals := 26 } : Room) s m #[(.ref a1)] below meth c s₁ [] 0 0 := Stand.of_body Bd
  have e0 : s₁.heap = h0 := by rw [← hh, Bd.state]; rfl
  have N0 := Fr.nil n0
  have pre0 : ∀ t, Steps p.tables e below (s₁.setTop (mkF m 0 #[.val (.ref a1)] [])) t → Steps p.tables e below (s₁.setTop (entryFrame m #[(.ref a1)] 1)) t := fun t k => castTop (ef_3_2 m a1) k
  obtain ⟨T1, h1, X1, e1, E1, A1, D1, U1, st1⟩ := newO X0 hx hZ hown (hw _ (List.mem_of_getElem? (i := 20) rfl)) (hw _ (List.mem_of_getElem? (i := 21) rfl)) (hw _ (List.mem_of_getElem? (i := 18) rfl)) e0 (g := (mkF m 0 #[.val (.ref a1)] [])) rfl (hb hby d3_0) (by decide) (by decide)
  obtain ⟨b1, g1⟩ : ∃ z, z = h0.size := ⟨_, rfl⟩
  rw [← g1] at A1 D1 U1 st1
  have g_b1 : n0 ≤ b1 := by rw [g1]; exact O0.1 ▸ O0.2.1
  have sz_b1 : h0.size ≤ b1 := by rw [g1]; exact (Keep.refl h0 []).1
  have O1 := O0.ext E1
  have K1 : Keep h0 h1 [] := (Keep.refl h0 []).ext E1
  have f1_value : Fld Z h1 b1 "java/util/Optional" "value" "Ljava/lang/Object;" .null := D1 (Or.inr (hw _ (List.mem_of_getElem? (i := 34) rfl))) (ty := (.object "java/lang/Object")) (by decide)
  obtain ⟨_, _, ⟨T2, L2, k2, n2⟩, -, X2, ⟨Lc2, hQ2, l2, y2, z2⟩, st2⟩ := Jvm.LawKit.callS X1 hx (y := (⟨"java/util/Objects", "requireNonNull", "(Ljava/lang/Object;)Ljava/lang/Object;"⟩ : MethodName)) hown (mvT hZ (hw _ (List.mem_of_getElem? (i := 22) rfl))) (mvT hZ (hw _ (List.mem_of_getElem? (i := 23) rfl))) (mvT hZ (hw _ (List.mem_of_getElem? (i := 24) rfl))) (mvT hZ (hw _ (List.mem_of_getElem? (i := 25) rfl))) (by decide) (backOf (W := 2) (rm_rnn l Z a0 hw [] W a1 h1 n0 O1 ) hZ (hw _ (List.mem_of_getElem? (i := 25) rfl)) (hw _ (List.mem_of_getElem? (i := 24) rfl)) (by decide) (by decide)) (g := (mkF m 5 #[.val (.ref a1)] [(.ref a1), (.ref b1), (.ref b1)])) rfl (by rw [hml]; rfl) (argsL := [(.ref a1)]) (rest := [(.ref b1), (.ref b1)]) (lenOf pd_0 rfl) rfl (by show 2 * 0 + _ ≤ _; exact Nat.le_of_eq rfl) (hb hby d3_5) (fun _ _ => ⟨rfl, e1, (by decide : 1 + 0 ≤ _), (by decide : 1 + 0 ≤ _)⟩)
  dsimp only [Pt.U, Pt.locs, Pt.cells, Pt.slots] at X2 l2 y2 z2 st2 hQ2
  subst l2 y2 z2
  obtain ⟨rfl, N2q, e2⟩ := hQ2
  have N2 := Fr.app N0 N2q
  obtain ⟨_, _, ⟨T3, L3, k3, n3⟩, -, X3, ⟨Lc3, hQ3, l3, y3, z3⟩, st3⟩ := X2.specialBack hx (y := (⟨"java/util/Optional", "<init>", "(Ljava/lang/Object;)V"⟩ : MethodName)) rfl hown (mvT hZ (hw _ (List.mem_of_getElem? (i := 26) rfl))) (mvT hZ (hw _ (List.mem_of_getElem? (i := 27) rfl))) (mvT hZ (hw _ (List.mem_of_getElem? (i := 29) rfl))) (by decide) (backOf (W := 1) (rm_oin l Z a0 hw [] W b1 a1 h1 n0 O1 g_b1 A1 f1_value) hZ (hw _ (List.mem_of_getElem? (i := 29) rfl)) (hw _ (List.mem_of_getElem? (i := 18) rfl)) (by decide) (by decide)) (g := (mkF m 8 #[.val (.ref a1)] [(.ref a1), (.ref b1), (.ref b1)])) rfl (by rw [hml]; rfl) (Steps.refl _) (a := b1) (argsL := [(.ref a1)]) (rest := [(.ref b1)]) (lenOf pd_1 rfl) rfl (by show 2 * 0 + _ ≤ _; exact Nat.le_of_eq rfl) (hb hby d3_8) (fun _ _ => ⟨rfl, e2, (by decide : 1 + 0 ≤ _), (by decide : 1 + 0 ≤ _)⟩)
  dsimp only [Pt.U, Pt.locs, Pt.cells, Pt.slots] at X3 l3 y3 z3 st3 hQ3
  subst l3 y3 z3
  obtain ⟨N3q, hP3⟩ := hQ3
  have N3 := Fr.app N2 N3q
  obtain ⟨rfl, Kp3, fp3_0, fp3_1⟩ := hP3
  have f3_0 : Exa Z T3.heap b1 "java/util/Optional" := (A1).keep Kp3
  have O3 := O1.keep Kp3 (allS g_b1 all0)
  have K3 : Keep h0 T3.heap [] := K1.trans Kp3 (allS (Or.inr sz_b1) all0)
  obtain ⟨fs, hr, hrun, hended, hW, hsame⟩ := X3.leave (v := some (.ref b1)) (fun h => by rw [Bd.returns] at h; cases h)
  refine ⟨_, _, pre0 _ ?_, hrun, hended, _, _, rfl, ?_, ⟨_, rfl⟩, hW, hsame.mono (by decide) (by decide)⟩
  · show Steps p.tables e below (s₁.setTop (mkF m 0 #[.val (.ref a1)] [])) _
    refine st1 _ ?_
    show Steps p.tables e below (T1.setTop (mkF m 3 #[.val (.ref a1)] [(.ref b1)])) _
    refine XS.dup X1.here hx rfl (hb hby d3_3) rfl rfl ?_
    show Steps p.tables e below (T1.setTop (mkF m 4 #[.val (.ref a1)] [(.ref b1), (.ref b1)])) _
    refine XS.aloadN X1.here hx rfl (hb hby d3_4) rfl rfl ?_
    show Steps p.tables e below (T1.setTop (mkF m 5 #[.val (.ref a1)] [(.ref a1), (.ref b1), (.ref b1)])) _
    refine st2 _ ?_
    show Steps p.tables e below (T2.setTop (mkF m 8 #[.val (.ref a1)] [(.ref a1), (.ref b1), (.ref b1)])) _
    refine st3.trans ?_
    show Steps p.tables e below (T3.setTop (mkF m 11 #[.val (.ref a1)] [(.ref b1)])) _
    jvm_step X3.here [X3.here.top, hx, (hb hby d3_11), X3.method', Bd.returns, Value.isRef, FieldType.isReference]
    first | (intro acts; rw [hr _ acts rfl rfl rfl]) | rw [hr _ _ rfl rfl rfl]
    exact Steps.refl _
  · show QW (fun v h => ∃ b1 : Addr, v = some (.ref b1) ∧ Keep h0 h [] ∧ n0 ≤ b1 ∧ h0.size ≤ b1 ∧ Exa Z h b1 "java/util/Optional" ∧ Fld Z h b1 "java/util/Optional" "value" "Ljava/lang/Object;" (.ref a1)) n0 _ T3.heap _
    exact ⟨N3, ⟨b1, rfl, K3, g_b1, sz_b1, fp3_0, fp3_1⟩⟩
theorem d11_0 : decode jdk_32_method_1_code 0 = .ok (.getstatic 1, 3) := by decide +kernel
theorem d11_3 : decode jdk_32_method_1_code 3 = .ok (.astore_n 0, 1) := by decide +kernel
theorem d11_4 : decode jdk_32_method_1_code 4 = .ok (.aload_n 0, 1) := by decide +kernel
theorem d11_5 : decode jdk_32_method_1_code 5 = .ok (.areturn, 1) := by decide +kernel
theorem ef_11_3 (m : MethodId)  : entryFrame m #[] 1 = mkF m 0 #[.unset] [] := by first | (simp [entryFrame, mkF, argsToLocals, Value.category]; done) | rfl
theorem pn_11 : plainName "java/util/Optional" = true := by first | (simp [plainName, overriddenIn]; done) | decide +kernel
set_option maxRecDepth 65536 in
set_option maxHeartbeats 40000000 in
theorem rm_emp (l : Launch) (Z : State) (a0 : Array Value) (hw : ∀ d ∈ tables_1, d.before a0 Z = true) (ws : List Jvm.Cond) {w_n5 : Addr} {w_n10 : Addr} {w_OK : Addr} {w_n1 : Addr} {w_n2 : Addr} {w_n4 : Addr} {w_n9 : Addr} {w_n6 : Addr} {w_n0 : Addr} {w_n7 : Addr} {w_n8 : Addr} {w_n3 : Addr} {w_n11 : Addr} {k_n10 : ClassId} (W : Wd Z w_n5 w_n10 w_OK w_n1 w_n2 w_n4 w_n9 w_n6 w_n0 w_n7 w_n8 w_n3 w_n11 k_n10) (h0 : Heap) (n0 : Nat) (O0 : Old Z n0 h0) :
    MetFree l (⟨"java/util/Optional", "empty", "()Ljava/util/Optional;"⟩ : MethodName) (head1 (Jvm.Cond.code (⟨"java/util/Optional", "empty", "()Ljava/util/Optional;"⟩ : MethodName) jdk_32_method_1_code 1 (some (.object "java/util/Optional")) :: ws) ({ frames := 0, cells := 0, slots := 0, locals := 0 } : Room)) (fun a U => a = #[] ∧ Z.Warmed39 U.vm ∧ U.heap = h0) (fun _ _ _ _ _ => True) (fun _ U o U' => ∃ v L, o = .returned v ∧ QP (some (.ref w_n11)) h0 n0 v U'.heap L ∧ FrameEnd U o U' L ({ frames := 0, cells := 0, slots := 0, locals := 0 } : Room).cells ({ frames := 0, cells := 0, slots := 0, locals := 0 } : Room).slots) := by
  have W' := W; obtain ⟨S_n5, E_n5, S_n10, S_OK, E_OK, S_n1, E_n1, S_n2, E_n2, S_n4, E_n4, S_n9, E_n9, S_n6, E_n6, S_n0, E_n0, S_n7, E_n7, S_n8, E_n8, S_n3, E_n3, S_n11, E_n11, F_OK_code, F_n5_code, F_n1_code, F_n2_code, F_n4_code, F_n9_code, F_n6_code, F_n0_code, F_n7_code, F_n8_code, F_n3_code, F_n11_value, V_n10⟩ := W'
  refine MetFree.of_bodySF (plainFor_of_name pn_11) hisR ?_
  intro p e s m args below meth c s₁ Bd hml0 hP hK
  obtain ⟨rfl, hZ, hh⟩ := hP
  have hx := Bd.exec
  have hby := Bd.bytes
  have hml : c.maxLocals = 1 := hml0
  have hown : s.vm.findClass "java/util/Optional" = some m.cls := findClass_of_methodNamed Bd.named
  have hnm := (name_of_methodNamed Bd.named Bd.method).1
  have X0 : Stand p l e ({ frames := 0, cells := 0, slots := 0, locals := 0 } : Room) s m #[] below meth c s₁ [] 0 0 := Stand.of_body Bd
  have e0 : s₁.heap = h0 := by rw [← hh, Bd.state]; rfl
  have N0 := Fr.nil n0
  have pre0 : ∀ t, Steps p.tables e below (s₁.setTop (mkF m 0 #[.unset] [])) t → Steps p.tables e below (s₁.setTop (entryFrame m #[] 1)) t := fun t k => castTop (ef_11_3 m ) k
  obtain ⟨T1, X1, e1, st1⟩ := getS2 X0 hx hZ hown (host := "") (Or.inl (hw _ (List.mem_of_getElem? (i := 65) rfl))) Via.refl e0 (S_n11.ext O0.2) (g := (mkF m 0 #[.unset] [])) rfl (hb hby d11_0)
  obtain ⟨fs, hr, hrun, hended, hW, hsame⟩ := X1.leave (v := some (.ref w_n11)) (fun h => by rw [Bd.returns] at h; cases h)
  refine ⟨_, _, pre0 _ ?_, hrun, hended, _, _, rfl, ?_, ⟨_, rfl⟩, hW, hsame.mono (by decide) (by decide)⟩
  · show Steps p.tables e below (s₁.setTop (mkF m 0 #[.unset] [])) _
    refine st1 _ ?_
    show Steps p.tables e below (T1.setTop (mkF m 3 #[.unset] [(.ref w_n11)])) _
    refine XS.astoreN X1.here hx rfl (hb hby d11_3) rfl rfl (l' := #[.val (.ref w_n11)]) rfl ?_
    show Steps p.tables e below (T1.setTop (mkF m 4 #[.val (.ref w_n11)] [])) _
    refine XS.aloadN X1.here hx rfl (hb hby d11_4) rfl rfl ?_
    show Steps p.tables e below (T1.setTop (mkF m 5 #[.val (.ref w_n11)] [(.ref w_n11)])) _
    jvm_step X1.here [X1.here.top, hx, (hb hby d11_5), X1.method', Bd.returns, Value.isRef, FieldType.isReference]
    first | (intro acts; rw [hr _ acts rfl rfl rfl]) | rw [hr _ _ rfl rfl rfl]
    exact Steps.refl _
  · show QP (some (.ref w_n11)) h0 n0 _ T1.heap _
    rw [e1]
    exact ⟨rfl, N0, rfl⟩
theorem d2_0 : decode prog_14_method_5_code 0 = .ok (.getstatic 60, 3) := by decide +kernel
theorem d2_3 : decode prog_14_method_5_code 3 = .ok (.astore_n 1, 1) := by decide +kernel
theorem d2_4 : decode prog_14_method_5_code 4 = .ok (.aload_n 1, 1) := by decide +kernel
theorem d2_5 : decode prog_14_method_5_code 5 = .ok (.arraylength, 1) := by decide +kernel
theorem d2_6 : decode prog_14_method_5_code 6 = .ok (.istore_n 2, 1) := by decide +kernel
theorem d2_7 : decode prog_14_method_5_code 7 = .ok (.iconst 0, 1) := by decide +kernel
theorem d2_8 : decode prog_14_method_5_code 8 = .ok (.istore_n 3, 1) := by decide +kernel
theorem d2_9 : decode prog_14_method_5_code 9 = .ok (.iload_n 3, 1) := by decide +kernel
theorem d2_10 : decode prog_14_method_5_code 10 = .ok (.iload_n 2, 1) := by decide +kernel
theorem d2_11 : decode prog_14_method_5_code 11 = .ok (.if_icmp .ge 29, 3) := by decide +kernel
theorem d2_14 : decode prog_14_method_5_code 14 = .ok (.aload_n 1, 1) := by decide +kernel
theorem d2_15 : decode prog_14_method_5_code 15 = .ok (.iload_n 3, 1) := by decide +kernel
theorem d2_16 : decode prog_14_method_5_code 16 = .ok (.aaload, 1) := by decide +kernel
theorem d2_17 : decode prog_14_method_5_code 17 = .ok (.astore 4, 2) := by decide +kernel
theorem d2_19 : decode prog_14_method_5_code 19 = .ok (.aload 4, 2) := by decide +kernel
theorem d2_21 : decode prog_14_method_5_code 21 = .ok (.getfield 56, 3) := by decide +kernel
theorem d2_24 : decode prog_14_method_5_code 24 = .ok (.iload_n 0, 1) := by decide +kernel
theorem d2_25 : decode prog_14_method_5_code 25 = .ok (.if_icmp .ne 9, 3) := by decide +kernel
theorem d2_28 : decode prog_14_method_5_code 28 = .ok (.aload 4, 2) := by decide +kernel
theorem d2_30 : decode prog_14_method_5_code 30 = .ok (.invokestatic 63, 3) := by decide +kernel
theorem d2_33 : decode prog_14_method_5_code 33 = .ok (.areturn, 1) := by decide +kernel
theorem pd_2 : parseMethodDescriptor "(Ljava/lang/Object;)Ljava/util/Optional;" = some ⟨[(.object "java/lang/Object")], some (.object "java/util/Optional")⟩ := by decide +kernel
theorem ef_2_4 (m : MethodId) (x0 : Int32) : entryFrame m #[(.int x0)] 5 = mkF m 0 #[.val (.int x0), .unset, .unset, .unset, .unset] [] := by first | (simp [entryFrame, mkF, argsToLocals, Value.category]; done) | rfl
theorem pn_2 : plainName "com/example/usher/usher/wire/ErrorCode" = true := by first | (simp [plainName, overriddenIn]; done) | decide +kernel
set_option maxRecDepth 65536 in
set_option maxHeartbeats 40000000 in
theorem rm_fc0 (l : Launch) (Z : State) (a0 : Array Value) (hw : ∀ d ∈ tables_1, d.before a0 Z = true) (ws : List Jvm.Cond) {w_n5 : Addr} {w_n10 : Addr} {w_OK : Addr} {w_n1 : Addr} {w_n2 : Addr} {w_n4 : Addr} {w_n9 : Addr} {w_n6 : Addr} {w_n0 : Addr} {w_n7 : Addr} {w_n8 : Addr} {w_n3 : Addr} {w_n11 : Addr} {k_n10 : ClassId} (W : Wd Z w_n5 w_n10 w_OK w_n1 w_n2 w_n4 w_n9 w_n6 w_n0 w_n7 w_n8 w_n3 w_n11 k_n10) (h0 : Heap) (n0 : Nat) (O0 : Old Z n0 h0) :
    MetFree l (⟨"com/example/usher/usher/wire/ErrorCode", "forCode", "(I)Ljava/util/Optional;"⟩ : MethodName) (head1 (Jvm.Cond.code (⟨"com/example/usher/usher/wire/ErrorCode", "forCode", "(I)Ljava/util/Optional;"⟩ : MethodName) prog_14_method_5_code 5 (some (.object "java/util/Optional")) :: ws) ({ frames := 3, cells := 1, slots := 1, locals := 38 } : Room)) (fun a U => a = #[(.int (0 : Int32))] ∧ Z.Warmed39 U.vm ∧ U.heap = h0) (fun _ _ _ _ _ => True) (fun _ U o U' => ∃ v L, o = .returned v ∧ QW (fun v h => ∃ b5_b1 : Addr, v = some (.ref b5_b1) ∧ Keep h0 h [] ∧ n0 ≤ b5_b1 ∧ h0.size ≤ b5_b1 ∧ Exa Z h b5_b1 "java/util/Optional" ∧ Fld Z h b5_b1 "java/util/Optional" "value" "Ljava/lang/Object;" (.ref w_OK)) n0 v U'.heap L ∧ FrameEnd U o U' L ({ frames := 3, cells := 1, slots := 1, locals := 38 } : Room).cells ({ frames := 3, cells := 1, slots := 1, locals := 38 } : Room).slots) := by
  have W' := W; obtain ⟨S_n5, E_n5, S_n10, S_OK, E_OK, S_n1, E_n1, S_n2, E_n2, S_n4, E_n4, S_n9, E_n9, S_n6, E_n6, S_n0, E_n0, S_n7, E_n7, S_n8, E_n8, S_n3, E_n3, S_n11, E_n11, F_OK_code, F_n5_code, F_n1_code, F_n2_code, F_n4_code, F_n9_code, F_n6_code, F_n0_code, F_n7_code, F_n8_code, F_n3_code, F_n11_value, V_n10⟩ := W'
  refine MetFree.of_bodySF (plainFor_of_name pn_2) hisR ?_
  intro p e s m args below meth c s₁ Bd hml0 hP hK
  obtain ⟨rfl, hZ, hh⟩ := hP
  have hx := Bd.exec
  have hby := Bd.bytes
  have hml : c.maxLocals = 5 := hml0
  have hown : s.vm.findClass "com/example/usher/usher/wire/ErrorCode" = some m.cls := findClass_of_methodNamed Bd.named
  have hnm := (name_of_methodNamed Bd.named Bd.method).1
  have X0 : Stand p l e ({ frames := 3, cells := 1, slots := 1, locals := 38 } : Room) s m #[(.int (0 : Int32))] below meth c s₁ [] 0 0 := Stand.of_body Bd
  have e0 : s₁.heap = h0 := by rw [← hh, Bd.state]; rfl
  have N0 := Fr.nil n0
  have pre0 : ∀ t, Steps p.tables e below (s₁.setTop (mkF m 0 #[.val (.int (0 : Int32)), .unset, .unset, .unset, .unset] [])) t → Steps p.tables e below (s₁.setTop (entryFrame m #[(.int (0 : Int32))] 5)) t := fun t k => castTop (ef_2_4 m (0 : Int32)) k
  obtain ⟨T1, X1, e1, st1⟩ := getS2 X0 hx hZ hown (host := "") (Or.inl (hw _ (List.mem_of_getElem? (i := 11) rfl))) Via.refl e0 (S_n10.ext O0.2) (g := (mkF m 0 #[.val (.int (0 : Int32)), .unset, .unset, .unset, .unset] [])) rfl (hb hby d2_0)
  obtain ⟨cl2, Ar2, qk2, Sz2, Nz2, Hs2, Gs2⟩ := id (V_n10.ext O0.2)
  obtain ⟨cl3, Ar3, qk3, Sz3, Nz3, Hs3, Gs3⟩ := id (V_n10.ext O0.2)
  have hin3 : ¬ ((0 : Int32) < 0 ∨ cl3.slots.size ≤ ((0 : Int32)).toNatClampNeg) := inb_of Sz3 ⟨by decide, by decide⟩
  have hat3 : cl3.slots[((0 : Int32)).toNatClampNeg]? = some (.ref w_OK) := Has.at Hs3 hin3 rfl
  obtain ⟨T4, X4, e4, st4⟩ := getF X1 hx hZ hown (host := "") (Or.inl (hw _ (List.mem_of_getElem? (i := 14) rfl))) Via.refl e1 (F_OK_code.ext O0.2) (g := (mkF m 21 #[.val (.int (0 : Int32)), .val (.ref w_n10), .val (.int (11 : Int32)), .val (.int (0 : Int32)), .val (.ref w_OK)] [(.ref w_OK)])) rfl rfl (hb hby d2_21)
  obtain ⟨_, _, ⟨T5, L5, k5, n5⟩, -, X5, ⟨Lc5, hQ5, l5, y5, z5⟩, st5⟩ := Jvm.LawKit.callS X4 hx (y := (⟨"java/util/Optional", "of", "(Ljava/lang/Object;)Ljava/util/Optional;"⟩ : MethodName)) hown (mvT hZ (hw _ (List.mem_of_getElem? (i := 16) rfl))) (mvT hZ (hw _ (List.mem_of_getElem? (i := 17) rfl))) (mvT hZ (hw _ (List.mem_of_getElem? (i := 18) rfl))) (mvT hZ (hw _ (List.mem_of_getElem? (i := 19) rfl))) (by decide) (backOf (W := 0) (rm_of l Z a0 hw [] W w_OK h0 n0 O0 ) hZ (hw _ (List.mem_of_getElem? (i := 19) rfl)) (hw _ (List.mem_of_getElem? (i := 18) rfl)) (by decide) (by decide)) (g := (mkF m 30 #[.val (.int (0 : Int32)), .val (.ref w_n10), .val (.int (11 : Int32)), .val (.int (0 : Int32)), .val (.ref w_OK)] [(.ref w_OK)])) rfl (by rw [hml]; rfl) (argsL := [(.ref w_OK)]) (rest := []) (lenOf pd_2 rfl) rfl (by show 2 * 0 + _ ≤ _; exact Nat.le_of_eq rfl) (hb hby d2_30) (fun _ _ => ⟨rfl, e4, (by decide : 0 + 1 ≤ _), (by decide : 0 + 1 ≤ _)⟩)
  dsimp only [Pt.U, Pt.locs, Pt.cells, Pt.slots] at X5 l5 y5 z5 st5 hQ5
  subst l5 y5 z5
  obtain ⟨N5q, hP5⟩ := hQ5
  have N5 := Fr.app N0 N5q
  obtain ⟨b5_b1, rfl, Kp5, g_b5_b1, si_b5_b1, fp5_0, fp5_1⟩ := hP5
  have O5 := O0.keep Kp5 all0
  have sz_b5_b1 : h0.size ≤ b5_b1 := Nat.le_trans ((Keep.refl h0 [])).1 si_b5_b1
  have K5 : Keep h0 T5.heap [] := (Keep.refl h0 []).trans Kp5 all0
  obtain ⟨fs, hr, hrun, hended, hW, hsame⟩ := X5.leave (v := some (.ref b5_b1)) (fun h => by rw [Bd.returns] at h; cases h)
  refine ⟨_, _, pre0 _ ?_, hrun, hended, _, _, rfl, ?_, ⟨_, rfl⟩, hW, hsame.mono (by decide) (by decide)⟩
  · show Steps p.tables e below (s₁.setTop (mkF m 0 #[.val (.int (0 : Int32)), .unset, .unset, .unset, .unset] [])) _
    refine st1 _ ?_
    show Steps p.tables e below (T1.setTop (mkF m 3 #[.val (.int (0 : Int32)), .unset, .unset, .unset, .unset] [(.ref w_n10)])) _
    refine XS.astoreN X1.here hx rfl (hb hby d2_3) rfl rfl (l' := #[.val (.int (0 : Int32)), .val (.ref w_n10), .unset, .unset, .unset]) rfl ?_
    show Steps p.tables e below (T1.setTop (mkF m 4 #[.val (.int (0 : Int32)), .val (.ref w_n10), .unset, .unset, .unset] [])) _
    refine XS.aloadN X1.here hx rfl (hb hby d2_4) rfl rfl ?_
    show Steps p.tables e below (T1.setTop (mkF m 5 #[.val (.int (0 : Int32)), .val (.ref w_n10), .unset, .unset, .unset] [(.ref w_n10)])) _
    refine X1.arraylength hx (by rw [e1]; exact Ar2.1) (State.isArrayOf_alike hZ.alike Ar2.2.1) (g := (mkF m 5 #[.val (.int (0 : Int32)), .val (.ref w_n10), .unset, .unset, .unset] [(.ref w_n10)])) rfl rfl (hb hby d2_5) _ ?_
    rw [len_of Sz2 Nz2]
    show Steps p.tables e below (T1.setTop (mkF m 6 #[.val (.int (0 : Int32)), .val (.ref w_n10), .unset, .unset, .unset] [(.int (11 : Int32))])) _
    refine XS.istoreN X1.here hx rfl (hb hby d2_6) rfl (l' := #[.val (.int (0 : Int32)), .val (.ref w_n10), .val (.int (11 : Int32)), .unset, .unset]) rfl ?_
    show Steps p.tables e below (T1.setTop (mkF m 7 #[.val (.int (0 : Int32)), .val (.ref w_n10), .val (.int (11 : Int32)), .unset, .unset] [])) _
    refine XS.iconst X1.here hx rfl (hb hby d2_7) ?_
    show Steps p.tables e below (T1.setTop (mkF m 8 #[.val (.int (0 : Int32)), .val (.ref w_n10), .val (.int (11 : Int32)), .unset, .unset] [(.int (0 : Int32))])) _
    refine XS.istoreN X1.here hx rfl (hb hby d2_8) rfl (l' := #[.val (.int (0 : Int32)), .val (.ref w_n10), .val (.int (11 : Int32)), .val (.int (0 : Int32)), .unset]) rfl ?_
    show Steps p.tables e below (T1.setTop (mkF m 9 #[.val (.int (0 : Int32)), .val (.ref w_n10), .val (.int (11 : Int32)), .val (.int (0 : Int32)), .unset] [])) _
    refine XS.iloadN X1.here hx rfl (hb hby d2_9) rfl ?_
    show Steps p.tables e below (T1.setTop (mkF m 10 #[.val (.int (0 : Int32)), .val (.ref w_n10), .val (.int (11 : Int32)), .val (.int (0 : Int32)), .unset] [(.int (0 : Int32))])) _
    refine XS.iloadN X1.here hx rfl (hb hby d2_10) rfl ?_
    show Steps p.tables e below (T1.setTop (mkF m 11 #[.val (.int (0 : Int32)), .val (.ref w_n10), .val (.int (11 : Int32)), .val (.int (0 : Int32)), .unset] [(.int (11 : Int32)), (.int (0 : Int32))])) _
    refine XS.icmpNo X1.here hx rfl (hb hby d2_11) rfl (tlt ((by decide) : (0 : Int32) < (11 : Int32))).2.1 ?_
    show Steps p.tables e below (T1.setTop (mkF m 14 #[.val (.int (0 : Int32)), .val (.ref w_n10), .val (.int (11 : Int32)), .val (.int (0 : Int32)), .unset] [])) _
    refine XS.aloadN X1.here hx rfl (hb hby d2_14) rfl rfl ?_
    show Steps p.tables e below (T1.setTop (mkF m 15 #[.val (.int (0 : Int32)), .val (.ref w_n10), .val (.int (11 : Int32)), .val (.int (0 : Int32)), .unset] [(.ref w_n10)])) _
    refine XS.iloadN X1.here hx rfl (hb hby d2_15) rfl ?_
    show Steps p.tables e below (T1.setTop (mkF m 16 #[.val (.int (0 : Int32)), .val (.ref w_n10), .val (.int (11 : Int32)), .val (.int (0 : Int32)), .unset] [(.int (0 : Int32)), (.ref w_n10)])) _
    refine X1.aaload hx (j := (0 : Int32)) (v := (.ref w_OK)) (by rw [e1]; exact Ar3.1) (State.isArrayOf_alike hZ.alike Ar3.2.1) rfl Ar3.2.2 hin3 hat3 (g := (mkF m 16 #[.val (.int (0 : Int32)), .val (.ref w_n10), .val (.int (11 : Int32)), .val (.int (0 : Int32)), .unset] [(.int (0 : Int32)), (.ref w_n10)])) rfl rfl (hb hby d2_16) _ ?_
    show Steps p.tables e below (T1.setTop (mkF m 17 #[.val (.int (0 : Int32)), .val (.ref w_n10), .val (.int (11 : Int32)), .val (.int (0 : Int32)), .unset] [(.ref w_OK)])) _
    refine XS.astore X1.here hx rfl (hb hby d2_17) rfl rfl (l' := #[.val (.int (0 : Int32)), .val (.ref w_n10), .val (.int (11 : Int32)), .val (.int (0 : Int32)), .val (.ref w_OK)]) rfl ?_
    show Steps p.tables e below (T1.setTop (mkF m 19 #[.val (.int (0 : Int32)), .val (.ref w_n10), .val (.int (11 : Int32)), .val (.int (0 : Int32)), .val (.ref w_OK)] [])) _
    refine XS.aload X1.here hx rfl (hb hby d2_19) rfl rfl ?_
    show Steps p.tables e below (T1.setTop (mkF m 21 #[.val (.int (0 : Int32)), .val (.ref w_n10), .val (.int (11 : Int32)), .val (.int (0 : Int32)), .val (.ref w_OK)] [(.ref w_OK)])) _
    refine st4 _ ?_
    show Steps p.tables e below (T4.setTop (mkF m 24 #[.val (.int (0 : Int32)), .val (.ref w_n10), .val (.int (11 : Int32)), .val (.int (0 : Int32)), .val (.ref w_OK)] [(.int (0 : Int32))])) _
    refine XS.iloadN X4.here hx rfl (hb hby d2_24) rfl ?_
    show Steps p.tables e below (T4.setTop (mkF m 25 #[.val (.int (0 : Int32)), .val (.ref w_n10), .val (.int (11 : Int32)), .val (.int (0 : Int32)), .val (.ref w_OK)] [(.int (0 : Int32)), (.int (0 : Int32))])) _
    refine XS.icmpNo X4.here hx rfl (hb hby d2_25) rfl (teq ((by decide) : (0 : Int32) = (0 : Int32))).2 ?_
    show Steps p.tables e below (T4.setTop (mkF m 28 #[.val (.int (0 : Int32)), .val (.ref w_n10), .val (.int (11 : Int32)), .val (.int (0 : Int32)), .val (.ref w_OK)] [])) _
    refine XS.aload X4.here hx rfl (hb hby d2_28) rfl rfl ?_
    show Steps p.tables e below (T4.setTop (mkF m 30 #[.val (.int (0 : Int32)), .val (.ref w_n10), .val (.int (11 : Int32)), .val (.int (0 : Int32)), .val (.ref w_OK)] [(.ref w_OK)])) _
    refine st5 _ ?_
    show Steps p.tables e below (T5.setTop (mkF m 33 #[.val (.int (0 : Int32)), .val (.ref w_n10), .val (.int (11 : Int32)), .val (.int (0 : Int32)), .val (.ref w_OK)] [(.ref b5_b1)])) _
    jvm_step X5.here [X5.here.top, hx, (hb hby d2_33), X5.method', Bd.returns, Value.isRef, FieldType.isReference]
    first | (intro acts; rw [hr _ acts rfl rfl rfl]) | rw [hr _ _ rfl rfl rfl]
    exact Steps.refl _
  · show QW (fun v h => ∃ b5_b1 : Addr, v = some (.ref b5_b1) ∧ Keep h0 h [] ∧ n0 ≤ b5_b1 ∧ h0.size ≤ b5_b1 ∧ Exa Z h b5_b1 "java/util/Optional" ∧ Fld Z h b5_b1 "java/util/Optional" "value" "Ljava/lang/Object;" (.ref w_OK)) n0 _ T5.heap _
    exact ⟨N5, ⟨b5_b1, rfl, K5, g_b5_b1, sz_b5_b1, fp5_0, fp5_1⟩⟩
theorem d8_0 : decode method_2_code 0 = .ok (.iload_n 0, 1) := by decide +kernel
theorem d8_1 : decode method_2_code 1 = .ok (.ifCond .ne 7, 3) := by decide +kernel
theorem d8_4 : decode method_2_code 4 = .ok (.getstatic 7, 3) := by decide +kernel
theorem d8_7 : decode method_2_code 7 = .ok (.areturn, 1) := by decide +kernel
theorem ef_8_5 (m : MethodId) (x0 : Int32) : entryFrame m #[(.int x0)] 1 = mkF m 0 #[.val (.int x0)] [] := by first | (simp [entryFrame, mkF, argsToLocals, Value.category]; done) | rfl
theorem pn_8 : plainName "com/example/usher/usher/wire/ErrorCodeForCodePinLaw" = true := by first | (simp [plainName, overriddenIn]; done) | decide +kernel
set_option maxRecDepth 65536 in
set_option maxHeartbeats 40000000 in
theorem rm_ex0 (l : Launch) (Z : State) (a0 : Array Value) (hw : ∀ d ∈ tables_1, d.before a0 Z = true) (ws : List Jvm.Cond) {w_n5 : Addr} {w_n10 : Addr} {w_OK : Addr} {w_n1 : Addr} {w_n2 : Addr} {w_n4 : Addr} {w_n9 : Addr} {w_n6 : Addr} {w_n0 : Addr} {w_n7 : Addr} {w_n8 : Addr} {w_n3 : Addr} {w_n11 : Addr} {k_n10 : ClassId} (W : Wd Z w_n5 w_n10 w_OK w_n1 w_n2 w_n4 w_n9 w_n6 w_n0 w_n7 w_n8 w_n3 w_n11 k_n10) (h0 : Heap) (n0 : Nat) (O0 : Old Z n0 h0) :
    MetFree l (⟨"com/example/usher/usher/wire/ErrorCodeForCodePinLaw", "expected", "(I)Lcom/example/usher/usher/wire/ErrorCode;"⟩ : MethodName) (head1 (Jvm.Cond.code (⟨"com/example/usher/usher/wire/ErrorCodeForCodePinLaw", "expected", "(I)Lcom/example/usher/usher/wire/ErrorCode;"⟩ : MethodName) method_2_code 1 (some (.object "com/example/usher/usher/wire/ErrorCode")) :: ws) ({ frames := 0, cells := 0, slots := 0, locals := 0 } : Room)) (fun a U => a = #[(.int (0 : Int32))] ∧ Z.Warmed39 U.vm ∧ U.heap = h0) (fun _ _ _ _ _ => True) (fun _ U o U' => ∃ v L, o = .returned v ∧ QP (some (.ref w_OK)) h0 n0 v U'.heap L ∧ FrameEnd U o U' L ({ frames := 0, cells := 0, slots := 0, locals := 0 } : Room).cells ({ frames := 0, cells := 0, slots := 0, locals := 0 } : Room).slots) := by
  have W' := W; obtain ⟨S_n5, E_n5, S_n10, S_OK, E_OK, S_n1, E_n1, S_n2, E_n2, S_n4, E_n4, S_n9, E_n9, S_n6, E_n6, S_n0, E_n0, S_n7, E_n7, S_n8, E_n8, S_n3, E_n3, S_n11, E_n11, F_OK_code, F_n5_code, F_n1_code, F_n2_code, F_n4_code, F_n9_code, F_n6_code, F_n0_code, F_n7_code, F_n8_code, F_n3_code, F_n11_value, V_n10⟩ := W'
  refine MetFree.of_bodySF (plainFor_of_name pn_8) hisR ?_
  intro p e s m args below meth c s₁ Bd hml0 hP hK
  obtain ⟨rfl, hZ, hh⟩ := hP
  have hx := Bd.exec
  have hby := Bd.bytes
  have hml : c.maxLocals = 1 := hml0
  have hown : s.vm.findClass "com/example/usher/usher/wire/ErrorCodeForCodePinLaw" = some m.cls := findClass_of_methodNamed Bd.named
  have hnm := (name_of_methodNamed Bd.named Bd.method).1
  have X0 : Stand p l e ({ frames := 0, cells := 0, slots := 0, locals := 0 } : Room) s m #[(.int (0 : Int32))] below meth c s₁ [] 0 0 := Stand.of_body Bd
  have e0 : s₁.heap = h0 := by rw [← hh, Bd.state]; rfl
  have N0 := Fr.nil n0
  have pre0 : ∀ t, Steps p.tables e below (s₁.setTop (mkF m 0 #[.val (.int (0 : Int32))] [])) t → Steps p.tables e below (s₁.setTop (entryFrame m #[(.int (0 : Int32))] 1)) t := fun t k => castTop (ef_8_5 m (0 : Int32)) k
  obtain ⟨T1, X1, e1, st1⟩ := getS2 X0 hx hZ hown (host := "") (Or.inl (hw _ (List.mem_of_getElem? (i := 45) rfl))) Via.refl e0 (S_OK.ext O0.2) (g := (mkF m 4 #[.val (.int (0 : Int32))] [])) rfl (hb hby d8_4)
  obtain ⟨fs, hr, hrun, hended, hW, hsame⟩ := X1.leave (v := some (.ref w_OK)) (fun h => by rw [Bd.returns] at h; cases h)
  refine ⟨_, _, pre0 _ ?_, hrun, hended, _, _, rfl, ?_, ⟨_, rfl⟩, hW, hsame.mono (by decide) (by decide)⟩
  · show Steps p.tables e below (s₁.setTop (mkF m 0 #[.val (.int (0 : Int32))] [])) _
    refine XS.iloadN X0.here hx rfl (hb hby d8_0) rfl ?_
    show Steps p.tables e below (s₁.setTop (mkF m 1 #[.val (.int (0 : Int32))] [(.int (0 : Int32))])) _
    refine XS.ifNo X0.here hx rfl (hb hby d8_1) rfl ((if0 _ _).trans (teq ((by decide) : (0 : Int32) = (0 : Int32))).2) ?_
    show Steps p.tables e below (s₁.setTop (mkF m 4 #[.val (.int (0 : Int32))] [])) _
    refine st1 _ ?_
    show Steps p.tables e below (T1.setTop (mkF m 7 #[.val (.int (0 : Int32))] [(.ref w_OK)])) _
    jvm_step X1.here [X1.here.top, hx, (hb hby d8_7), X1.method', Bd.returns, Value.isRef, FieldType.isReference]
    first | (intro acts; rw [hr _ acts rfl rfl rfl]) | rw [hr _ _ rfl rfl rfl]
    exact Steps.refl _
  · show QP (some (.ref w_OK)) h0 n0 _ T1.heap _
    rw [e1]
    exact ⟨rfl, N0, rfl⟩
theorem d1_0 : decode method_3_code 0 = .ok (.iload_n 0, 1) := by decide +kernel
theorem d1_1 : decode method_3_code 1 = .ok (.ifCond .ne 7, 3) := by decide +kernel
theorem d1_4 : decode method_3_code 4 = .ok (.getstatic 7, 3) := by decide +kernel
theorem d1_7 : decode method_3_code 7 = .ok (.areturn, 1) := by decide +kernel
theorem ef_1_6 (m : MethodId) (x0 : Int32) : entryFrame m #[(.int x0)] 1 = mkF m 0 #[.val (.int x0)] [] := by first | (simp [entryFrame, mkF, argsToLocals, Value.category]; done) | rfl
theorem pn_1 : plainName "com/example/usher/usher/wire/ErrorCodeForCodePinLaw" = true := by first | (simp [plainName, overriddenIn]; done) | decide +kernel
set_option maxRecDepth 65536 in
set_option maxHeartbeats 40000000 in
theorem rm_pk0 (l : Launch) (Z : State) (a0 : Array Value) (hw : ∀ d ∈ tables_1, d.before a0 Z = true) (ws : List Jvm.Cond) {w_n5 : Addr} {w_n10 : Addr} {w_OK : Addr} {w_n1 : Addr} {w_n2 : Addr} {w_n4 : Addr} {w_n9 : Addr} {w_n6 : Addr} {w_n0 : Addr} {w_n7 : Addr} {w_n8 : Addr} {w_n3 : Addr} {w_n11 : Addr} {k_n10 : ClassId} (W : Wd Z w_n5 w_n10 w_OK w_n1 w_n2 w_n4 w_n9 w_n6 w_n0 w_n7 w_n8 w_n3 w_n11 k_n10) (h0 : Heap) (n0 : Nat) (O0 : Old Z n0 h0) :
    MetFree l (⟨"com/example/usher/usher/wire/ErrorCodeForCodePinLaw", "pick", "(I)Lcom/example/usher/usher/wire/ErrorCode;"⟩ : MethodName) (head1 (Jvm.Cond.code (⟨"com/example/usher/usher/wire/ErrorCodeForCodePinLaw", "pick", "(I)Lcom/example/usher/usher/wire/ErrorCode;"⟩ : MethodName) method_3_code 1 (some (.object "com/example/usher/usher/wire/ErrorCode")) :: ws) ({ frames := 0, cells := 0, slots := 0, locals := 0 } : Room)) (fun a U => a = #[(.int (0 : Int32))] ∧ Z.Warmed39 U.vm ∧ U.heap = h0) (fun _ _ _ _ _ => True) (fun _ U o U' => ∃ v L, o = .returned v ∧ QP (some (.ref w_OK)) h0 n0 v U'.heap L ∧ FrameEnd U o U' L ({ frames := 0, cells := 0, slots := 0, locals := 0 } : Room).cells ({ frames := 0, cells := 0, slots := 0, locals := 0 } : Room).slots) := by
  have W' := W; obtain ⟨S_n5, E_n5, S_n10, S_OK, E_OK, S_n1, E_n1, S_n2, E_n2, S_n4, E_n4, S_n9, E_n9, S_n6, E_n6, S_n0, E_n0, S_n7, E_n7, S_n8, E_n8, S_n3, E_n3, S_n11, E_n11, F_OK_code, F_n5_code, F_n1_code, F_n2_code, F_n4_code, F_n9_code, F_n6_code, F_n0_code, F_n7_code, F_n8_code, F_n3_code, F_n11_value, V_n10⟩ := W'
  refine MetFree.of_bodySF (plainFor_of_name pn_1) hisR ?_
  intro p e s m args below meth c s₁ Bd hml0 hP hK
  obtain ⟨rfl, hZ, hh⟩ := hP
  have hx := Bd.exec
  have hby := Bd.bytes
  have hml : c.maxLocals = 1 := hml0
  have hown : s.vm.findClass "com/example/usher/usher/wire/ErrorCodeForCodePinLaw" = some m.cls := findClass_of_methodNamed Bd.named
  have hnm := (name_of_methodNamed Bd.named Bd.method).1
  have X0 : Stand p l e ({ frames := 0, cells := 0, slots := 0, locals := 0 } : Room) s m #[(.int (0 : Int32))] below meth c s₁ [] 0 0 := Stand.of_body Bd
  have e0 : s₁.heap = h0 := by rw [← hh, Bd.state]; rfl
  have N0 := Fr.nil n0
  have pre0 : ∀ t, Steps p.tables e below (s₁.setTop (mkF m 0 #[.val (.int (0 : Int32))] [])) t → Steps p.tables e below (s₁.setTop (entryFrame m #[(.int (0 : Int32))] 1)) t := fun t k => castTop (ef_1_6 m (0 : Int32)) k
  obtain ⟨T1, X1, e1, st1⟩ := getS2 X0 hx hZ hown (host := "") (Or.inl (hw _ (List.mem_of_getElem? (i := 45) rfl))) Via.refl e0 (S_OK.ext O0.2) (g := (mkF m 4 #[.val (.int (0 : Int32))] [])) rfl (hb hby d1_4)
  obtain ⟨fs, hr, hrun, hended, hW, hsame⟩ := X1.leave (v := some (.ref w_OK)) (fun h => by rw [Bd.returns] at h; cases h)
  refine ⟨_, _, pre0 _ ?_, hrun, hended, _, _, rfl, ?_, ⟨_, rfl⟩, hW, hsame.mono (by decide) (by decide)⟩
  · show Steps p.tables e below (s₁.setTop (mkF m 0 #[.val (.int (0 : Int32))] [])) _
    refine XS.iloadN X0.here hx rfl (hb hby d1_0) rfl ?_
    show Steps p.tables e below (s₁.setTop (mkF m 1 #[.val (.int (0 : Int32))] [(.int (0 : Int32))])) _
    refine XS.ifNo X0.here hx rfl (hb hby d1_1) rfl ((if0 _ _).trans (teq ((by decide) : (0 : Int32) = (0 : Int32))).2) ?_
    show Steps p.tables e below (s₁.setTop (mkF m 4 #[.val (.int (0 : Int32))] [])) _
    refine st1 _ ?_
    show Steps p.tables e below (T1.setTop (mkF m 7 #[.val (.int (0 : Int32))] [(.ref w_OK)])) _
    jvm_step X1.here [X1.here.top, hx, (hb hby d1_7), X1.method', Bd.returns, Value.isRef, FieldType.isReference]
    first | (intro acts; rw [hr _ acts rfl rfl rfl]) | rw [hr _ _ rfl rfl rfl]
    exact Steps.refl _
  · show QP (some (.ref w_OK)) h0 n0 _ T1.heap _
    rw [e1]
    exact ⟨rfl, N0, rfl⟩
theorem d2_34 : decode prog_14_method_5_code 34 = .ok (.iinc 3 1, 3) := by decide +kernel
theorem d2_37 : decode prog_14_method_5_code 37 = .ok (.goto (-28), 3) := by decide +kernel
set_option maxRecDepth 65536 in
set_option maxHeartbeats 40000000 in
theorem rm_fc1 (l : Launch) (Z : State) (a0 : Array Value) (hw : ∀ d ∈ tables_1, d.before a0 Z = true) (ws : List Jvm.Cond) {w_n5 : Addr} {w_n10 : Addr} {w_OK : Addr} {w_n1 : Addr} {w_n2 : Addr} {w_n4 : Addr} {w_n9 : Addr} {w_n6 : Addr} {w_n0 : Addr} {w_n7 : Addr} {w_n8 : Addr} {w_n3 : Addr} {w_n11 : Addr} {k_n10 : ClassId} (W : Wd Z w_n5 w_n10 w_OK w_n1 w_n2 w_n4 w_n9 w_n6 w_n0 w_n7 w_n8 w_n3 w_n11 k_n10) (h0 : Heap) (n0 : Nat) (O0 : Old Z n0 h0) :
    MetFree l (⟨"com/example/usher/usher/wire/ErrorCode", "forCode", "(I)Ljava/util/Optional;"⟩ : MethodName) (head1 (Jvm.Cond.code (⟨"com/example/usher/usher/wire/ErrorCode", "forCode", "(I)Ljava/util/Optional;"⟩ : MethodName) prog_14_method_5_code 5 (some (.object "java/util/Optional")) :: ws) ({ frames := 3, cells := 1, slots := 1, locals := 38 } : Room)) (fun a U => a = #[(.int (-2 : Int32))] ∧ Z.Warmed39 U.vm ∧ U.heap = h0) (fun _ _ _ _ _ => True) (fun _ U o U' => ∃ v L, o = .returned v ∧ QW (fun v h => ∃ b7_b1 : Addr, v = some (.ref b7_b1) ∧ Keep h0 h [] ∧ n0 ≤ b7_b1 ∧ h0.size ≤ b7_b1 ∧ Exa Z h b7_b1 "java/util/Optional" ∧ Fld Z h b7_b1 "java/util/Optional" "value" "Ljava/lang/Object;" (.ref w_n1)) n0 v U'.heap L ∧ FrameEnd U o U' L ({ frames := 3, cells := 1, slots := 1, locals := 38 } : Room).cells ({ frames := 3, cells := 1, slots := 1, locals := 38 } : Room).slots) := by
  have W' := W; obtain ⟨S_n5, E_n5, S_n10, S_OK, E_OK, S_n1, E_n1, S_n2, E_n2, S_n4, E_n4, S_n9, E_n9, S_n6, E_n6, S_n0, E_n0, S_n7, E_n7, S_n8, E_n8, S_n3, E_n3, S_n11, E_n11, F_OK_code, F_n5_code, F_n1_code, F_n2_code, F_n4_code, F_n9_code, F_n6_code, F_n0_code, F_n7_code, F_n8_code, F_n3_code, F_n11_value, V_n10⟩ := W'
  refine MetFree.of_bodySF (plainFor_of_name pn_2) hisR ?_
  intro p e s m args below meth c s₁ Bd hml0 hP hK
  obtain ⟨rfl, hZ, hh⟩ := hP
  have hx := Bd.exec
  have hby := Bd.bytes
  have hml : c.maxLocals = 5 := hml0
  have hown : s.vm.findClass "com/example/usher/usher/wire/ErrorCode" = some m.cls := findClass_of_methodNamed Bd.named
  have hnm := (name_of_methodNamed Bd.named Bd.method).1
  have X0 : Stand p l e ({ frames := 3, cells := 1, slots := 1, locals := 38 } : Room) s m #[(.int (-2 : Int32))] below meth c s₁ [] 0 0 := Stand.of_body Bd
  have e0 : s₁.heap = h0 := by rw [← hh, Bd.state]; rfl
  have N0 := Fr.nil n0
  have pre0 : ∀ t, Steps p.tables e below (s₁.setTop (mkF m 0 #[.val (.int (-2 : Int32)), .unset, .unset, .unset, .unset] [])) t → Steps p.tables e below (s₁.setTop (entryFrame m #[(.int (-2 : Int32))] 5)) t := fun t k => castTop (ef_2_4 m (-2 : Int32)) k
  obtain ⟨T1, X1, e1, st1⟩ := getS2 X0 hx hZ hown (host := "") (Or.inl (hw _ (List.mem_of_getElem? (i := 11) rfl))) Via.refl e0 (S_n10.ext O0.2) (g := (mkF m 0 #[.val (.int (-2 : Int32)), .unset, .unset, .unset, .unset] [])) rfl (hb hby d2_0)
  obtain ⟨cl2, Ar2, qk2, Sz2, Nz2, Hs2, Gs2⟩ := id (V_n10.ext O0.2)
  obtain ⟨cl3, Ar3, qk3, Sz3, Nz3, Hs3, Gs3⟩ := id (V_n10.ext O0.2)
  have hin3 : ¬ ((0 : Int32) < 0 ∨ cl3.slots.size ≤ ((0 : Int32)).toNatClampNeg) := inb_of Sz3 ⟨by decide, by decide⟩
  have hat3 : cl3.slots[((0 : Int32)).toNatClampNeg]? = some (.ref w_OK) := Has.at Hs3 hin3 rfl
  obtain ⟨T4, X4, e4, st4⟩ := getF X1 hx hZ hown (host := "") (Or.inl (hw _ (List.mem_of_getElem? (i := 14) rfl))) Via.refl e1 (F_OK_code.ext O0.2) (g := (mkF m 21 #[.val (.int (-2 : Int32)), .val (.ref w_n10), .val (.int (11 : Int32)), .val (.int (0 : Int32)), .val (.ref w_OK)] [(.ref w_OK)])) rfl rfl (hb hby d2_21)
  obtain ⟨cl5, Ar5, qk5, Sz5, Nz5, Hs5, Gs5⟩ := id (V_n10.ext O0.2)
  have hin5 : ¬ ((1 : Int32) < 0 ∨ cl5.slots.size ≤ ((1 : Int32)).toNatClampNeg) := inb_of Sz5 ⟨by decide, by decide⟩
  have hat5 : cl5.slots[((1 : Int32)).toNatClampNeg]? = some (.ref w_n1) := Has.at Hs5 hin5 rfl
  obtain ⟨T6, X6, e6, st6⟩ := getF X4 hx hZ hown (host := "") (Or.inl (hw _ (List.mem_of_getElem? (i := 14) rfl))) Via.refl e4 (F_n1_code.ext O0.2) (g := (mkF m 21 #[.val (.int (-2 : Int32)), .val (.ref w_n10), .val (.int (11 : Int32)), .val (.int (1 : Int32)), .val (.ref w_n1)] [(.ref w_n1)])) rfl rfl (hb hby d2_21)
  obtain ⟨_, _, ⟨T7, L7, k7, n7⟩, -, X7, ⟨Lc7, hQ7, l7, y7, z7⟩, st7⟩ := Jvm.LawKit.callS X6 hx (y := (⟨"java/util/Optional", "of", "(Ljava/lang/Object;)Ljava/util/Optional;"⟩ : MethodName)) hown (mvT hZ (hw _ (List.mem_of_getElem? (i := 16) rfl))) (mvT hZ (hw _ (List.mem_of_getElem? (i := 17) rfl))) (mvT hZ (hw _ (List.mem_of_getElem? (i := 18) rfl))) (mvT hZ (hw _ (List.mem_of_getElem? (i := 19) rfl))) (by decide) (backOf (W := 0) (rm_of l Z a0 hw [] W w_n1 h0 n0 O0 ) hZ (hw _ (List.mem_of_getElem? (i := 19) rfl)) (hw _ (List.mem_of_getElem? (i := 18) rfl)) (by decide) (by decide)) (g := (mkF m 30 #[.val (.int (-2 : Int32)), .val (.ref w_n10), .val (.int (11 : Int32)), .val (.int (1 : Int32)), .val (.ref w_n1)] [(.ref w_n1)])) rfl (by rw [hml]; rfl) (argsL := [(.ref w_n1)]) (rest := []) (lenOf pd_2 rfl) rfl (by show 2 * 0 + _ ≤ _; exact Nat.le_of_eq rfl) (hb hby d2_30) (fun _ _ => ⟨rfl, e6, (by decide : 0 + 1 ≤ _), (by decide : 0 + 1 ≤ _)⟩)
  dsimp only [Pt.U, Pt.locs, Pt.cells, Pt.slots] at X7 l7 y7 z7 st7 hQ7
  subst l7 y7 z7
  obtain ⟨N7q, hP7⟩ := hQ7
  have N7 := Fr.app N0 N7q
  obtain ⟨b7_b1, rfl, Kp7, g_b7_b1, si_b7_b1, fp7_0, fp7_1⟩ := hP7
  have O7 := O0.keep Kp7 all0
  have sz_b7_b1 : h0.size ≤ b7_b1 := Nat.le_trans ((Keep.refl h0 [])).1 si_b7_b1
  have K7 : Keep h0 T7.heap [] := (Keep.refl h0 []).trans Kp7 all0
  obtain ⟨fs, hr, hrun, hended, hW, hsame⟩ := X7.leave (v := some (.ref b7_b1)) (fun h => by rw [Bd.returns] at h; cases h)
  refine ⟨_, _, pre0 _ ?_, hrun, hended, _, _, rfl, ?_, ⟨_, rfl⟩, hW, hsame.mono (by decide) (by decide)⟩
  · show Steps p.tables e below (s₁.setTop (mkF m 0 #[.val (.int (-2 : Int32)), .unset, .unset, .unset, .unset] [])) _
    refine st1 _ ?_
    show Steps p.tables e below (T1.setTop (mkF m 3 #[.val (.int (-2 : Int32)), .unset, .unset, .unset, .unset] [(.ref w_n10)])) _
    refine XS.astoreN X1.here hx rfl (hb hby d2_3) rfl rfl (l' := #[.val (.int (-2 : Int32)), .val (.ref w_n10), .unset, .unset, .unset]) rfl ?_
    show Steps p.tables e below (T1.setTop (mkF m 4 #[.val (.int (-2 : Int32)), .val (.ref w_n10), .unset, .unset, .unset] [])) _
    refine XS.aloadN X1.here hx rfl (hb hby d2_4) rfl rfl ?_
    show Steps p.tables e below (T1.setTop (mkF m 5 #[.val (.int (-2 : Int32)), .val (.ref w_n10), .unset, .unset, .unset] [(.ref w_n10)])) _
    refine X1.arraylength hx (by rw [e1]; exact Ar2.1) (State.isArrayOf_alike hZ.alike Ar2.2.1) (g := (mkF m 5 #[.val (.int (-2 : Int32)), .val (.ref w_n10), .unset, .unset, .unset] [(.ref w_n10)])) rfl rfl (hb hby d2_5) _ ?_
    rw [len_of Sz2 Nz2]
    show Steps p.tables e below (T1.setTop (mkF m 6 #[.val (.int (-2 : Int32)), .val (.ref w_n10), .unset, .unset, .unset] [(.int (11 : Int32))])) _
    refine XS.istoreN X1.here hx rfl (hb hby d2_6) rfl (l' := #[.val (.int (-2 : Int32)), .val (.ref w_n10), .val (.int (11 : Int32)), .unset, .unset]) rfl ?_
    show Steps p.tables e below (T1.setTop (mkF m 7 #[.val (.int (-2 : Int32)), .val (.ref w_n10), .val (.int (11 : Int32)), .unset, .unset] [])) _
    refine XS.iconst X1.here hx rfl (hb hby d2_7) ?_
    show Steps p.tables e below (T1.setTop (mkF m 8 #[.val (.int (-2 : Int32)), .val (.ref w_n10), .val (.int (11 : Int32)), .unset, .unset] [(.int (0 : Int32))])) _
    refine XS.istoreN X1.here hx rfl (hb hby d2_8) rfl (l' := #[.val (.int (-2 : Int32)), .val (.ref w_n10), .val (.int (11 : Int32)), .val (.int (0 : Int32)), .unset]) rfl ?_
    show Steps p.tables e below (T1.setTop (mkF m 9 #[.val (.int (-2 : Int32)), .val (.ref w_n10), .val (.int (11 : Int32)), .val (.int (0 : Int32)), .unset] [])) _
    refine XS.iloadN X1.here hx rfl (hb hby d2_9) rfl ?_
    show Steps p.tables e below (T1.setTop (mkF m 10 #[.val (.int (-2 : Int32)), .val (.ref w_n10), .val (.int (11 : Int32)), .val (.int (0 : Int32)), .unset] [(.int (0 : Int32))])) _
    refine XS.iloadN X1.here hx rfl (hb hby d2_10) rfl ?_
    show Steps p.tables e below (T1.setTop (mkF m 11 #[.val (.int (-2 : Int32)), .val (.ref w_n10), .val (.int (11 : Int32)), .val (.int (0 : Int32)), .unset] [(.int (11 : Int32)), (.int (0 : Int32))])) _
    refine XS.icmpNo X1.here hx rfl (hb hby d2_11) rfl (tlt ((by decide) : (0 : Int32) < (11 : Int32))).2.1 ?_
    show Steps p.tables e below (T1.setTop (mkF m 14 #[.val (.int (-2 : Int32)), .val (.ref w_n10), .val (.int (11 : Int32)), .val (.int (0 : Int32)), .unset] [])) _
    refine XS.aloadN X1.here hx rfl (hb hby d2_14) rfl rfl ?_
    show Steps p.tables e below (T1.setTop (mkF m 15 #[.val (.int (-2 : Int32)), .val (.ref w_n10), .val (.int (11 : Int32)), .val (.int (0 : Int32)), .unset] [(.ref w_n10)])) _
    refine XS.iloadN X1.here hx rfl (hb hby d2_15) rfl ?_
    show Steps p.tables e below (T1.setTop (mkF m 16 #[.val (.int (-2 : Int32)), .val (.ref w_n10), .val (.int (11 : Int32)), .val (.int (0 : Int32)), .unset] [(.int (0 : Int32)), (.ref w_n10)])) _
    refine X1.aaload hx (j := (0 : Int32)) (v := (.ref w_OK)) (by rw [e1]; exact Ar3.1) (State.isArrayOf_alike hZ.alike Ar3.2.1) rfl Ar3.2.2 hin3 hat3 (g := (mkF m 16 #[.val (.int (-2 : Int32)), .val (.ref w_n10), .val (.int (11 : Int32)), .val (.int (0 : Int32)), .unset] [(.int (0 : Int32)), (.ref w_n10)])) rfl rfl (hb hby d2_16) _ ?_
    show Steps p.tables e below (T1.setTop (mkF m 17 #[.val (.int (-2 : Int32)), .val (.ref w_n10), .val (.int (11 : Int32)), .val (.int (0 : Int32)), .unset] [(.ref w_OK)])) _
    refine XS.astore X1.here hx rfl (hb hby d2_17) rfl rfl (l' := #[.val (.int (-2 : Int32)), .val (.ref w_n10), .val (.int (11 : Int32)), .val (.int (0 : Int32)), .val (.ref w_OK)]) rfl ?_
    show Steps p.tables e below (T1.setTop (mkF m 19 #[.val (.int (-2 : Int32)), .val (.ref w_n10), .val (.int (11 : Int32)), .val (.int (0 : Int32)), .val (.ref w_OK)] [])) _
    refine XS.aload X1.here hx rfl (hb hby d2_19) rfl rfl ?_
    show Steps p.tables e below (T1.setTop (mkF m 21 #[.val (.int (-2 : Int32)), .val (.ref w_n10), .val (.int (11 : Int32)), .val (.int (0 : Int32)), .val (.ref w_OK)] [(.ref w_OK)])) _
    refine st4 _ ?_
    show Steps p.tables e below (T4.setTop (mkF m 24 #[.val (.int (-2 : Int32)), .val (.ref w_n10), .val (.int (11 : Int32)), .val (.int (0 : Int32)), .val (.ref w_OK)] [(.int (0 : Int32))])) _
    refine XS.iloadN X4.here hx rfl (hb hby d2_24) rfl ?_
    show Steps p.tables e below (T4.setTop (mkF m 25 #[.val (.int (-2 : Int32)), .val (.ref w_n10), .val (.int (11 : Int32)), .val (.int (0 : Int32)), .val (.ref w_OK)] [(.int (-2 : Int32)), (.int (0 : Int32))])) _
    refine XS.icmpYes X4.here hx rfl (pc0 := 25) (pc' := 34) rfl (hb hby d2_25) rfl (feq ((by decide) : ¬ ((0 : Int32) = (-2 : Int32)))).2 (by decide) (by decide) ?_
    show Steps p.tables e below (T4.setTop (mkF m 34 #[.val (.int (-2 : Int32)), .val (.ref w_n10), .val (.int (11 : Int32)), .val (.int (0 : Int32)), .val (.ref w_OK)] [])) _
    refine XS.iinc X4.here hx rfl (hb hby d2_34) rfl (l' := #[.val (.int (-2 : Int32)), .val (.ref w_n10), .val (.int (11 : Int32)), .val (.int ((0 : Int32) + (1 : Int32))), .val (.ref w_OK)]) rfl ?_
    show Steps p.tables e below (T4.setTop (mkF m 37 #[.val (.int (-2 : Int32)), .val (.ref w_n10), .val (.int (11 : Int32)), .val (.int ((0 : Int32) + (1 : Int32))), .val (.ref w_OK)] [])) _
    rw [show ((0 : Int32) + (1 : Int32)) = (1 : Int32) from by decide]
    show Steps p.tables e below (T4.setTop (mkF m 37 #[.val (.int (-2 : Int32)), .val (.ref w_n10), .val (.int (11 : Int32)), .val (.int (1 : Int32)), .val (.ref w_OK)] [])) _
    refine XS.goto X4.here hx rfl (pc0 := 37) (pc' := 9) rfl (hb hby d2_37) (by decide) (by decide) ?_
    show Steps p.tables e below (T4.setTop (mkF m 9 #[.val (.int (-2 : Int32)), .val (.ref w_n10), .val (.int (11 : Int32)), .val (.int (1 : Int32)), .val (.ref w_OK)] [])) _
    refine XS.iloadN X4.here hx rfl (hb hby d2_9) rfl ?_
    show Steps p.tables e below (T4.setTop (mkF m 10 #[.val (.int (-2 : Int32)), .val (.ref w_n10), .val (.int (11 : Int32)), .val (.int (1 : Int32)), .val (.ref w_OK)] [(.int (1 : Int32))])) _
    refine XS.iloadN X4.here hx rfl (hb hby d2_10) rfl ?_
    show Steps p.tables e below (T4.setTop (mkF m 11 #[.val (.int (-2 : Int32)), .val (.ref w_n10), .val (.int (11 : Int32)), .val (.int (1 : Int32)), .val (.ref w_OK)] [(.int (11 : Int32)), (.int (1 : Int32))])) _
    refine XS.icmpNo X4.here hx rfl (hb hby d2_11) rfl (tlt ((by decide) : (1 : Int32) < (11 : Int32))).2.1 ?_
    show Steps p.tables e below (T4.setTop (mkF m 14 #[.val (.int (-2 : Int32)), .val (.ref w_n10), .val (.int (11 : Int32)), .val (.int (1 : Int32)), .val (.ref w_OK)] [])) _
    refine XS.aloadN X4.here hx rfl (hb hby d2_14) rfl rfl ?_
    show Steps p.tables e below (T4.setTop (mkF m 15 #[.val (.int (-2 : Int32)), .val (.ref w_n10), .val (.int (11 : Int32)), .val (.int (1 : Int32)), .val (.ref w_OK)] [(.ref w_n10)])) _
    refine XS.iloadN X4.here hx rfl (hb hby d2_15) rfl ?_
    show Steps p.tables e below (T4.setTop (mkF m 16 #[.val (.int (-2 : Int32)), .val (.ref w_n10), .val (.int (11 : Int32)), .val (.int (1 : Int32)), .val (.ref w_OK)] [(.int (1 : Int32)), (.ref w_n10)])) _
    refine X4.aaload hx (j := (1 : Int32)) (v := (.ref w_n1)) (by rw [e4]; exact Ar5.1) (State.isArrayOf_alike hZ.alike Ar5.2.1) rfl Ar5.2.2 hin5 hat5 (g := (mkF m 16 #[.val (.int (-2 : Int32)), .val (.ref w_n10), .val (.int (11 : Int32)), .val (.int (1 : Int32)), .val (.ref w_OK)] [(.int (1 : Int32)), (.ref w_n10)])) rfl rfl (hb hby d2_16) _ ?_
    show Steps p.tables e below (T4.setTop (mkF m 17 #[.val (.int (-2 : Int32)), .val (.ref w_n10), .val (.int (11 : Int32)), .val (.int (1 : Int32)), .val (.ref w_OK)] [(.ref w_n1)])) _
    refine XS.astore X4.here hx rfl (hb hby d2_17) rfl rfl (l' := #[.val (.int (-2 : Int32)), .val (.ref w_n10), .val (.int (11 : Int32)), .val (.int (1 : Int32)), .val (.ref w_n1)]) rfl ?_
    show Steps p.tables e below (T4.setTop (mkF m 19 #[.val (.int (-2 : Int32)), .val (.ref w_n10), .val (.int (11 : Int32)), .val (.int (1 : Int32)), .val (.ref w_n1)] [])) _
    refine XS.aload X4.here hx rfl (hb hby d2_19) rfl rfl ?_
    show Steps p.tables e below (T4.setTop (mkF m 21 #[.val (.int (-2 : Int32)), .val (.ref w_n10), .val (.int (11 : Int32)), .val (.int (1 : Int32)), .val (.ref w_n1)] [(.ref w_n1)])) _
    refine st6 _ ?_
    show Steps p.tables e below (T6.setTop (mkF m 24 #[.val (.int (-2 : Int32)), .val (.ref w_n10), .val (.int (11 : Int32)), .val (.int (1 : Int32)), .val (.ref w_n1)] [(.int (-2 : Int32))])) _
    refine XS.iloadN X6.here hx rfl (hb hby d2_24) rfl ?_
    show Steps p.tables e below (T6.setTop (mkF m 25 #[.val (.int (-2 : Int32)), .val (.ref w_n10), .val (.int (11 : Int32)), .val (.int (1 : Int32)), .val (.ref w_n1)] [(.int (-2 : Int32)), (.int (-2 : Int32))])) _
    refine XS.icmpNo X6.here hx rfl (hb hby d2_25) rfl (teq ((by decide) : (-2 : Int32) = (-2 : Int32))).2 ?_
    show Steps p.tables e below (T6.setTop (mkF m 28 #[.val (.int (-2 : Int32)), .val (.ref w_n10), .val (.int (11 : Int32)), .val (.int (1 : Int32)), .val (.ref w_n1)] [])) _
    refine XS.aload X6.here hx rfl (hb hby d2_28) rfl rfl ?_
    show Steps p.tables e below (T6.setTop (mkF m 30 #[.val (.int (-2 : Int32)), .val (.ref w_n10), .val (.int (11 : Int32)), .val (.int (1 : Int32)), .val (.ref w_n1)] [(.ref w_n1)])) _
    refine st7 _ ?_
    show Steps p.tables e below (T7.setTop (mkF m 33 #[.val (.int (-2 : Int32)), .val (.ref w_n10), .val (.int (11 : Int32)), .val (.int (1 : Int32)), .val (.ref w_n1)] [(.ref b7_b1)])) _
    jvm_step X7.here [X7.here.top, hx, (hb hby d2_33), X7.method', Bd.returns, Value.isRef, FieldType.isReference]
    first | (intro acts; rw [hr _ acts rfl rfl rfl]) | rw [hr _ _ rfl rfl rfl]
    exact Steps.refl _
  · show QW (fun v h => ∃ b7_b1 : Addr, v = some (.ref b7_b1) ∧ Keep h0 h [] ∧ n0 ≤ b7_b1 ∧ h0.size ≤ b7_b1 ∧ Exa Z h b7_b1 "java/util/Optional" ∧ Fld Z h b7_b1 "java/util/Optional" "value" "Ljava/lang/Object;" (.ref w_n1)) n0 _ T7.heap _
    exact ⟨N7, ⟨b7_b1, rfl, K7, g_b7_b1, sz_b7_b1, fp7_0, fp7_1⟩⟩
theorem d8_8 : decode method_2_code 8 = .ok (.iload_n 0, 1) := by decide +kernel
theorem d8_9 : decode method_2_code 9 = .ok (.bipush (-2), 2) := by decide +kernel
theorem d8_11 : decode method_2_code 11 = .ok (.if_icmp .ne 7, 3) := by decide +kernel
theorem d8_14 : decode method_2_code 14 = .ok (.getstatic 13, 3) := by decide +kernel
theorem d8_17 : decode method_2_code 17 = .ok (.areturn, 1) := by decide +kernel
set_option maxRecDepth 65536 in
set_option maxHeartbeats 40000000 in
theorem rm_ex1 (l : Launch) (Z : State) (a0 : Array Value) (hw : ∀ d ∈ tables_1, d.before a0 Z = true) (ws : List Jvm.Cond) {w_n5 : Addr} {w_n10 : Addr} {w_OK : Addr} {w_n1 : Addr} {w_n2 : Addr} {w_n4 : Addr} {w_n9 : Addr} {w_n6 : Addr} {w_n0 : Addr} {w_n7 : Addr} {w_n8 : Addr} {w_n3 : Addr} {w_n11 : Addr} {k_n10 : ClassId} (W : Wd Z w_n5 w_n10 w_OK w_n1 w_n2 w_n4 w_n9 w_n6 w_n0 w_n7 w_n8 w_n3 w_n11 k_n10) (h0 : Heap) (n0 : Nat) (O0 : Old Z n0 h0) :
    MetFree l (⟨"com/example/usher/usher/wire/ErrorCodeForCodePinLaw", "expected", "(I)Lcom/example/usher/usher/wire/ErrorCode;"⟩ : MethodName) (head1 (Jvm.Cond.code (⟨"com/example/usher/usher/wire/ErrorCodeForCodePinLaw", "expected", "(I)Lcom/example/usher/usher/wire/ErrorCode;"⟩ : MethodName) method_2_code 1 (some (.object "com/example/usher/usher/wire/ErrorCode")) :: ws) ({ frames := 0, cells := 0, slots := 0, locals := 0 } : Room)) (fun a U => a = #[(.int (-2 : Int32))] ∧ Z.Warmed39 U.vm ∧ U.heap = h0) (fun _ _ _ _ _ => True) (fun _ U o U' => ∃ v L, o = .returned v ∧ QP (some (.ref w_n1)) h0 n0 v U'.heap L ∧ FrameEnd U o U' L ({ frames := 0, cells := 0, slots := 0, locals := 0 } : Room).cells ({ frames := 0, cells := 0, slots := 0, locals := 0 } : Room).slots) := by
  have W' := W; obtain ⟨S_n5, E_n5, S_n10, S_OK, E_OK, S_n1, E_n1, S_n2, E_n2, S_n4, E_n4, S_n9, E_n9, S_n6, E_n6, S_n0, E_n0, S_n7, E_n7, S_n8, E_n8, S_n3, E_n3, S_n11, E_n11, F_OK_code, F_n5_code, F_n1_code, F_n2_code, F_n4_code, F_n9_code, F_n6_code, F_n0_code, F_n7_code, F_n8_code, F_n3_code, F_n11_value, V_n10⟩ := W'
  refine MetFree.of_bodySF (plainFor_of_name pn_8) hisR ?_
  intro p e s m args below meth c s₁ Bd hml0 hP hK
  obtain ⟨rfl, hZ, hh⟩ := hP
  have hx := Bd.exec
  have hby := Bd.bytes
  have hml : c.maxLocals = 1 := hml0
  have hown : s.vm.findClass "com/example/usher/usher/wire/ErrorCodeForCodePinLaw" = some m.cls := findClass_of_methodNamed Bd.named
  have hnm := (name_of_methodNamed Bd.named Bd.method).1
  have X0 : Stand p l e ({ frames := 0, cells := 0, slots := 0, locals := 0 } : Room) s m #[(.int (-2 : Int32))] below meth c s₁ [] 0 0 := Stand.of_body Bd
  have e0 : s₁.heap = h0 := by rw [← hh, Bd.state]; rfl
  have N0 := Fr.nil n0
  have pre0 : ∀ t, Steps p.tables e below (s₁.setTop (mkF m 0 #[.val (.int (-2 : Int32))] [])) t → Steps p.tables e below (s₁.setTop (entryFrame m #[(.int (-2 : Int32))] 1)) t := fun t k => castTop (ef_8_5 m (-2 : Int32)) k
  obtain ⟨T1, X1, e1, st1⟩ := getS2 X0 hx hZ hown (host := "") (Or.inl (hw _ (List.mem_of_getElem? (i := 54) rfl))) Via.refl e0 (S_n1.ext O0.2) (g := (mkF m 14 #[.val (.int (-2 : Int32))] [])) rfl (hb hby d8_14)
  obtain ⟨fs, hr, hrun, hended, hW, hsame⟩ := X1.leave (v := some (.ref w_n1)) (fun h => by rw [Bd.returns] at h; cases h)
  refine ⟨_, _, pre0 _ ?_, hrun, hended, _, _, rfl, ?_, ⟨_, rfl⟩, hW, hsame.mono (by decide) (by decide)⟩
  · show Steps p.tables e below (s₁.setTop (mkF m 0 #[.val (.int (-2 : Int32))] [])) _
    refine XS.iloadN X0.here hx rfl (hb hby d8_0) rfl ?_
    show Steps p.tables e below (s₁.setTop (mkF m 1 #[.val (.int (-2 : Int32))] [(.int (-2 : Int32))])) _
    refine XS.ifYes X0.here hx rfl (pc0 := 1) (pc' := 8) rfl (hb hby d8_1) rfl ((if0 _ _).trans (feq ((by decide) : ¬ ((-2 : Int32) = (0 : Int32)))).2) (by decide) (by decide) ?_
    show Steps p.tables e below (s₁.setTop (mkF m 8 #[.val (.int (-2 : Int32))] [])) _
    refine XS.iloadN X0.here hx rfl (hb hby d8_8) rfl ?_
    show Steps p.tables e below (s₁.setTop (mkF m 9 #[.val (.int (-2 : Int32))] [(.int (-2 : Int32))])) _
    refine XS.bipush X0.here hx rfl (hb hby d8_9) ?_
    show Steps p.tables e below (s₁.setTop (mkF m 11 #[.val (.int (-2 : Int32))] [(.int (-2 : Int32)), (.int (-2 : Int32))])) _
    refine XS.icmpNo X0.here hx rfl (hb hby d8_11) rfl (teq ((by decide) : (-2 : Int32) = (-2 : Int32))).2 ?_
    show Steps p.tables e below (s₁.setTop (mkF m 14 #[.val (.int (-2 : Int32))] [])) _
    refine st1 _ ?_
    show Steps p.tables e below (T1.setTop (mkF m 17 #[.val (.int (-2 : Int32))] [(.ref w_n1)])) _
    jvm_step X1.here [X1.here.top, hx, (hb hby d8_17), X1.method', Bd.returns, Value.isRef, FieldType.isReference]
    first | (intro acts; rw [hr _ acts rfl rfl rfl]) | rw [hr _ _ rfl rfl rfl]
    exact Steps.refl _
  · show QP (some (.ref w_n1)) h0 n0 _ T1.heap _
    rw [e1]
    exact ⟨rfl, N0, rfl⟩
theorem d1_8 : decode method_3_code 8 = .ok (.iload_n 0, 1) := by decide +kernel
theorem d1_9 : decode method_3_code 9 = .ok (.iconst 1, 1) := by decide +kernel
theorem d1_10 : decode method_3_code 10 = .ok (.if_icmp .ne 7, 3) := by decide +kernel
theorem d1_13 : decode method_3_code 13 = .ok (.getstatic 13, 3) := by decide +kernel
theorem d1_16 : decode method_3_code 16 = .ok (.areturn, 1) := by decide +kernel
set_option maxRecDepth 65536 in
set_option maxHeartbeats 40000000 in
theorem rm_pk1 (l : Launch) (Z : State) (a0 : Array Value) (hw : ∀ d ∈ tables_1, d.before a0 Z = true) (ws : List Jvm.Cond) {w_n5 : Addr} {w_n10 : Addr} {w_OK : Addr} {w_n1 : Addr} {w_n2 : Addr} {w_n4 : Addr} {w_n9 : Addr} {w_n6 : Addr} {w_n0 : Addr} {w_n7 : Addr} {w_n8 : Addr} {w_n3 : Addr} {w_n11 : Addr} {k_n10 : ClassId} (W : Wd Z w_n5 w_n10 w_OK w_n1 w_n2 w_n4 w_n9 w_n6 w_n0 w_n7 w_n8 w_n3 w_n11 k_n10) (h0 : Heap) (n0 : Nat) (O0 : Old Z n0 h0) :
    MetFree l (⟨"com/example/usher/usher/wire/ErrorCodeForCodePinLaw", "pick", "(I)Lcom/example/usher/usher/wire/ErrorCode;"⟩ : MethodName) (head1 (Jvm.Cond.code (⟨"com/example/usher/usher/wire/ErrorCodeForCodePinLaw", "pick", "(I)Lcom/example/usher/usher/wire/ErrorCode;"⟩ : MethodName) method_3_code 1 (some (.object "com/example/usher/usher/wire/ErrorCode")) :: ws) ({ frames := 0, cells := 0, slots := 0, locals := 0 } : Room)) (fun a U => a = #[(.int (1 : Int32))] ∧ Z.Warmed39 U.vm ∧ U.heap = h0) (fun _ _ _ _ _ => True) (fun _ U o U' => ∃ v L, o = .returned v ∧ QP (some (.ref w_n1)) h0 n0 v U'.heap L ∧ FrameEnd U o U' L ({ frames := 0, cells := 0, slots := 0, locals := 0 } : Room).cells ({ frames := 0, cells := 0, slots := 0, locals := 0 } : Room).slots) := by
  have W' := W; obtain ⟨S_n5, E_n5, S_n10, S_OK, E_OK, S_n1, E_n1, S_n2, E_n2, S_n4, E_n4, S_n9, E_n9, S_n6, E_n6, S_n0, E_n0, S_n7, E_n7, S_n8, E_n8, S_n3, E_n3, S_n11, E_n11, F_OK_code, F_n5_code, F_n1_code, F_n2_code, F_n4_code, F_n9_code, F_n6_code, F_n0_code, F_n7_code, F_n8_code, F_n3_code, F_n11_value, V_n10⟩ := W'
  refine MetFree.of_bodySF (plainFor_of_name pn_1) hisR ?_
  intro p e s m args below meth c s₁ Bd hml0 hP hK
  obtain ⟨rfl, hZ, hh⟩ := hP
  have hx := Bd.exec
  have hby := Bd.bytes
  have hml : c.maxLocals = 1 := hml0
  have hown : s.vm.findClass "com/example/usher/usher/wire/ErrorCodeForCodePinLaw" = some m.cls := findClass_of_methodNamed Bd.named
  have hnm := (name_of_methodNamed Bd.named Bd.method).1
  have X0 : Stand p l e ({ frames := 0, cells := 0, slots := 0, locals := 0 } : Room) s m #[(.int (1 : Int32))] below meth c s₁ [] 0 0 := Stand.of_body Bd
  have e0 : s₁.heap = h0 := by rw [← hh, Bd.state]; rfl
  have N0 := Fr.nil n0
  have pre0 : ∀ t, Steps p.tables e below (s₁.setTop (mkF m 0 #[.val (.int (1 : Int32))] [])) t → Steps p.tables e below (s₁.setTop (entryFrame m #[(.int (1 : Int32))] 1)) t := fun t k => castTop (ef_1_6 m (1 : Int32)) k
  obtain ⟨T1, X1, e1, st1⟩ := getS2 X0 hx hZ hown (host := "") (Or.inl (hw _ (List.mem_of_getElem? (i := 54) rfl))) Via.refl e0 (S_n1.ext O0.2) (g := (mkF m 13 #[.val (.int (1 : Int32))] [])) rfl (hb hby d1_13)
  obtain ⟨fs, hr, hrun, hended, hW, hsame⟩ := X1.leave (v := some (.ref w_n1)) (fun h => by rw [Bd.returns] at h; cases h)
  refine ⟨_, _, pre0 _ ?_, hrun, hended, _, _, rfl, ?_, ⟨_, rfl⟩, hW, hsame.mono (by decide) (by decide)⟩
  · show Steps p.tables e below (s₁.setTop (mkF m 0 #[.val (.int (1 : Int32))] [])) _
    refine XS.iloadN X0.here hx rfl (hb hby d1_0) rfl ?_
    show Steps p.tables e below (s₁.setTop (mkF m 1 #[.val (.int (1 : Int32))] [(.int (1 : Int32))])) _
    refine XS.ifYes X0.here hx rfl (pc0 := 1) (pc' := 8) rfl (hb hby d1_1) rfl ((if0 _ _).trans (feq ((by decide) : ¬ ((1 : Int32) = (0 : Int32)))).2) (by decide) (by decide) ?_
    show Steps p.tables e below (s₁.setTop (mkF m 8 #[.val (.int (1 : Int32))] [])) _
    refine XS.iloadN X0.here hx rfl (hb hby d1_8) rfl ?_
    show Steps p.tables e below (s₁.setTop (mkF m 9 #[.val (.int (1 : Int32))] [(.int (1 : Int32))])) _
    refine XS.iconst X0.here hx rfl (hb hby d1_9) ?_
    show Steps p.tables e below (s₁.setTop (mkF m 10 #[.val (.int (1 : Int32))] [(.int (1 : Int32)), (.int (1 : Int32))])) _
    refine XS.icmpNo X0.here hx rfl (hb hby d1_10) rfl (teq ((by decide) : (1 : Int32) = (1 : Int32))).2 ?_
    show Steps p.tables e below (s₁.setTop (mkF m 13 #[.val (.int (1 : Int32))] [])) _
    refine st1 _ ?_
    show Steps p.tables e below (T1.setTop (mkF m 16 #[.val (.int (1 : Int32))] [(.ref w_n1)])) _
    jvm_step X1.here [X1.here.top, hx, (hb hby d1_16), X1.method', Bd.returns, Value.isRef, FieldType.isReference]
    first | (intro acts; rw [hr _ acts rfl rfl rfl]) | rw [hr _ _ rfl rfl rfl]
    exact Steps.refl _
  · show QP (some (.ref w_n1)) h0 n0 _ T1.heap _
    rw [e1]
    exact ⟨rfl, N0, rfl⟩
set_option maxRecDepth 65536 in
set_option maxHeartbeats 40000000 in
theorem rm_fc2 (l : Launch) (Z : State) (a0 : Array Value) (hw : ∀ d ∈ tables_1, d.before a0 Z = true) (ws : List Jvm.Cond) {w_n5 : Addr} {w_n10 : Addr} {w_OK : Addr} {w_n1 : Addr} {w_n2 : Addr} {w_n4 : Addr} {w_n9 : Addr} {w_n6 : Addr} {w_n0 : Addr} {w_n7 : Addr} {w_n8 : Addr} {w_n3 : Addr} {w_n11 : Addr} {k_n10 : ClassId} (W : Wd Z w_n5 w_n10 w_OK w_n1 w_n2 w_n4 w_n9 w_n6 w_n0 w_n7 w_n8 w_n3 w_n11 k_n10) (h0 : Heap) (n0 : Nat) (O0 : Old Z n0 h0) :
    MetFree l (⟨"com/example/usher/usher/wire/ErrorCode", "forCode", "(I)Ljava/util/Optional;"⟩ : MethodName) (head1 (Jvm.Cond.code (⟨"com/example/usher/usher/wire/ErrorCode", "forCode", "(I)Ljava/util/Optional;"⟩ : MethodName) prog_14_method_5_code 5 (some (.object "java/util/Optional")) :: ws) ({ frames := 3, cells := 1, slots := 1, locals := 38 } : Room)) (fun a U => a = #[(.int (-5 : Int32))] ∧ Z.Warmed39 U.vm ∧ U.heap = h0) (fun _ _ _ _ _ => True) (fun _ U o U' => ∃ v L, o = .returned v ∧ QW (fun v h => ∃ b9_b1 : Addr, v = some (.ref b9_b1) ∧ Keep h0 h [] ∧ n0 ≤ b9_b1 ∧ h0.size ≤ b9_b1 ∧ Exa Z h b9_b1 "java/util/Optional" ∧ Fld Z h b9_b1 "java/util/Optional" "value" "Ljava/lang/Object;" (.ref w_n2)) n0 v U'.heap L ∧ FrameEnd U o U' L ({ frames := 3, cells := 1, slots := 1, locals := 38 } : Room).cells ({ frames := 3, cells := 1, slots := 1, locals := 38 } : Room).slots) := by
  have W' := W; obtain ⟨S_n5, E_n5, S_n10, S_OK, E_OK, S_n1, E_n1, S_n2, E_n2, S_n4, E_n4, S_n9, E_n9, S_n6, E_n6, S_n0, E_n0, S_n7, E_n7, S_n8, E_n8, S_n3, E_n3, S_n11, E_n11, F_OK_code, F_n5_code, F_n1_code, F_n2_code, F_n4_code, F_n9_code, F_n6_code, F_n0_code, F_n7_code, F_n8_code, F_n3_code, F_n11_value, V_n10⟩ := W'
  refine MetFree.of_bodySF (plainFor_of_name pn_2) hisR ?_
  intro p e s m args below meth c s₁ Bd hml0 hP hK
  obtain ⟨rfl, hZ, hh⟩ := hP
  have hx := Bd.exec
  have hby := Bd.bytes
  have hml : c.maxLocals = 5 := hml0
  have hown : s.vm.findClass "com/example/usher/usher/wire/ErrorCode" = some m.cls := findClass_of_methodNamed Bd.named
  have hnm := (name_of_methodNamed Bd.named Bd.method).1
  have X0 : Stand p l e ({ frames := 3, cells := 1, slots := 1, locals := 38 } : Room) s m #[(.int (-5 : Int32))] below meth c s₁ [] 0 0 := Stand.of_body Bd
  have e0 : s₁.heap = h0 := by rw [← hh, Bd.state]; rfl
  have N0 := Fr.nil n0
  have pre0 : ∀ t, Steps p.tables e below (s₁.setTop (mkF m 0 #[.val (.int (-5 : Int32)), .unset, .unset, .unset, .unset] [])) t → Steps p.tables e below (s₁.setTop (entryFrame m #[(.int (-5 : Int32))] 5)) t := fun t k => castTop (ef_2_4 m (-5 : Int32)) k
  obtain ⟨T1, X1, e1, st1⟩ := getS2 X0 hx hZ hown (host := "") (Or.inl (hw _ (List.mem_of_getElem? (i := 11) rfl))) Via.refl e0 (S_n10.ext O0.2) (g := (mkF m 0 #[.val (.int (-5 : Int32)), .unset, .unset, .unset, .unset] [])) rfl (hb hby d2_0)
  obtain ⟨cl2, Ar2, qk2, Sz2, Nz2, Hs2, Gs2⟩ := id (V_n10.ext O0.2)
  obtain ⟨cl3, Ar3, qk3, Sz3, Nz3, Hs3, Gs3⟩ := id (V_n10.ext O0.2)
  have hin3 : ¬ ((0 : Int32) < 0 ∨ cl3.slots.size ≤ ((0 : Int32)).toNatClampNeg) := inb_of Sz3 ⟨by decide, by decide⟩
  have hat3 : cl3.slots[((0 : Int32)).toNatClampNeg]? = some (.ref w_OK) := Has.at Hs3 hin3 rfl
  obtain ⟨T4, X4, e4, st4⟩ := getF X1 hx hZ hown (host := "") (Or.inl (hw _ (List.mem_of_getElem? (i := 14) rfl))) Via.refl e1 (F_OK_code.ext O0.2) (g := (mkF m 21 #[.val (.int (-5 : Int32)), .val (.ref w_n10), .val (.int (11 : Int32)), .val (.int (0 : Int32)), .val (.ref w_OK)] [(.ref w_OK)])) rfl rfl (hb hby d2_21)
  obtain ⟨cl5, Ar5, qk5, Sz5, Nz5, Hs5, Gs5⟩ := id (V_n10.ext O0.2)
  have hin5 : ¬ ((1 : Int32) < 0 ∨ cl5.slots.size ≤ ((1 : Int32)).toNatClampNeg) := inb_of Sz5 ⟨by decide, by decide⟩
  have hat5 : cl5.slots[((1 : Int32)).toNatClampNeg]? = some (.ref w_n1) := Has.at Hs5 hin5 rfl
  obtain ⟨T6, X6, e6, st6⟩ := getF X4 hx hZ hown (host := "") (Or.inl (hw _ (List.mem_of_getElem? (i := 14) rfl))) Via.refl e4 (F_n1_code.ext O0.2) (g := (mkF m 21 #[.val (.int (-5 : Int32)), .val (.ref w_n10), .val (.int (11 : Int32)), .val (.int (1 : Int32)), .val (.ref w_n1)] [(.ref w_n1)])) rfl rfl (hb hby d2_21)
  obtain ⟨cl7, Ar7, qk7, Sz7, Nz7, Hs7, Gs7⟩ := id (V_n10.ext O0.2)
  have hin7 : ¬ ((2 : Int32) < 0 ∨ cl7.slots.size ≤ ((2 : Int32)).toNatClampNeg) := inb_of Sz7 ⟨by decide, by decide⟩
  have hat7 : cl7.slots[((2 : Int32)).toNatClampNeg]? = some (.ref w_n2) := Has.at Hs7 hin7 rfl
  obtain ⟨T8, X8, e8, st8⟩ := getF X6 hx hZ hown (host := "") (Or.inl (hw _ (List.mem_of_getElem? (i := 14) rfl))) Via.refl e6 (F_n2_code.ext O0.2) (g := (mkF m 21 #[.val (.int (-5 : Int32)), .val (.ref w_n10), .val (.int (11 : Int32)), .val (.int (2 : Int32)), .val (.ref w_n2)] [(.ref w_n2)])) rfl rfl (hb hby d2_21)
  obtain ⟨_, _, ⟨T9, L9, k9, n9⟩, -, X9, ⟨Lc9, hQ9, l9, y9, z9⟩, st9⟩ := Jvm.LawKit.callS X8 hx (y := (⟨"java/util/Optional", "of", "(Ljava/lang/Object;)Ljava/util/Optional;"⟩ : MethodName)) hown (mvT hZ (hw _ (List.mem_of_getElem? (i := 16) rfl))) (mvT hZ (hw _ (List.mem_of_getElem? (i := 17) rfl))) (mvT hZ (hw _ (List.mem_of_getElem? (i := 18) rfl))) (mvT hZ (hw _ (List.mem_of_getElem? (i := 19) rfl))) (by decide) (backOf (W := 0) (rm_of l Z a0 hw [] W w_n2 h0 n0 O0 ) hZ (hw _ (List.mem_of_getElem? (i := 19) rfl)) (hw _ (List.mem_of_getElem? (i := 18) rfl)) (by decide) (by decide)) (g := (mkF m 30 #[.val (.int (-5 : Int32)), .val (.ref w_n10), .val (.int (11 : Int32)), .val (.int (2 : Int32)), .val (.ref w_n2)] [(.ref w_n2)])) rfl (by rw [hml]; rfl) (argsL := [(.ref w_n2)]) (rest := []) (lenOf pd_2 rfl) rfl (by show 2 * 0 + _ ≤ _; exact Nat.le_of_eq rfl) (hb hby d2_30) (fun _ _ => ⟨rfl, e8, (by decide : 0 + 1 ≤ _), (by decide : 0 + 1 ≤ _)⟩)
  dsimp only [Pt.U, Pt.locs, Pt.cells, Pt.slots] at X9 l9 y9 z9 st9 hQ9
  subst l9 y9 z9
  obtain ⟨N9q, hP9⟩ := hQ9
  have N9 := Fr.app N0 N9q
  obtain ⟨b9_b1, rfl, Kp9, g_b9_b1, si_b9_b1, fp9_0, fp9_1⟩ := hP9
  have O9 := O0.keep Kp9 all0
  have sz_b9_b1 : h0.size ≤ b9_b1 := Nat.le_trans ((Keep.refl h0 [])).1 si_b9_b1
  have K9 : Keep h0 T9.heap [] := (Keep.refl h0 []).trans Kp9 all0
  obtain ⟨fs, hr, hrun, hended, hW, hsame⟩ := X9.leave (v := some (.ref b9_b1)) (fun h => by rw [Bd.returns] at h; cases h)
  refine ⟨_, _, pre0 _ ?_, hrun, hended, _, _, rfl, ?_, ⟨_, rfl⟩, hW, hsame.mono (by decide) (by decide)⟩
  · show Steps p.tables e below (s₁.setTop (mkF m 0 #[.val (.int (-5 : Int32)), .unset, .unset, .unset, .unset] [])) _
    refine st1 _ ?_
    show Steps p.tables e below (T1.setTop (mkF m 3 #[.val (.int (-5 : Int32)), .unset, .unset, .unset, .unset] [(.ref w_n10)])) _
    refine XS.astoreN X1.here hx rfl (hb hby d2_3) rfl rfl (l' := #[.val (.int (-5 : Int32)), .val (.ref w_n10), .unset, .unset, .unset]) rfl ?_
    show Steps p.tables e below (T1.setTop (mkF m 4 #[.val (.int (-5 : Int32)), .val (.ref w_n10), .unset, .unset, .unset] [])) _
    refine XS.aloadN X1.here hx rfl (hb hby d2_4) rfl rfl ?_
    show Steps p.tables e below (T1.setTop (mkF m 5 #[.val (.int (-5 : Int32)), .val (.ref w_n10), .unset, .unset, .unset] [(.ref w_n10)])) _
    refine X1.arraylength hx (by rw [e1]; exact Ar2.1) (State.isArrayOf_alike hZ.alike Ar2.2.1) (g := (mkF m 5 #[.val (.int (-5 : Int32)), .val (.ref w_n10), .unset, .unset, .unset] [(.ref w_n10)])) rfl rfl (hb hby d2_5) _ ?_
    rw [len_of Sz2 Nz2]
    show Steps p.tables e below (T1.setTop (mkF m 6 #[.val (.int (-5 : Int32)), .val (.ref w_n10), .unset, .unset, .unset] [(.int (11 : Int32))])) _
    refine XS.istoreN X1.here hx rfl (hb hby d2_6) rfl (l' := #[.val (.int (-5 : Int32)), .val (.ref w_n10), .val (.int (11 : Int32)), .unset, .unset]) rfl ?_
    show Steps p.tables e below (T1.setTop (mkF m 7 #[.val (.int (-5 : Int32)), .val (.ref w_n10), .val (.int (11 : Int32)), .unset, .unset] [])) _
    refine XS.iconst X1.here hx rfl (hb hby d2_7) ?_
    show Steps p.tables e below (T1.setTop (mkF m 8 #[.val (.int (-5 : Int32)), .val (.ref w_n10), .val (.int (11 : Int32)), .unset, .unset] [(.int (0 : Int32))])) _
    refine XS.istoreN X1.here hx rfl (hb hby d2_8) rfl (l' := #[.val (.int (-5 : Int32)), .val (.ref w_n10), .val (.int (11 : Int32)), .val (.int (0 : Int32)), .unset]) rfl ?_
    show Steps p.tables e below (T1.setTop (mkF m 9 #[.val (.int (-5 : Int32)), .val (.ref w_n10), .val (.int (11 : Int32)), .val (.int (0 : Int32)), .unset] [])) _
    refine XS.iloadN X1.here hx rfl (hb hby d2_9) rfl ?_
    show Steps p.tables e below (T1.setTop (mkF m 10 #[.val (.int (-5 : Int32)), .val (.ref w_n10), .val (.int (11 : Int32)), .val (.int (0 : Int32)), .unset] [(.int (0 : Int32))])) _
    refine XS.iloadN X1.here hx rfl (hb hby d2_10) rfl ?_
    show Steps p.tables e below (T1.setTop (mkF m 11 #[.val (.int (-5 : Int32)), .val (.ref w_n10), .val (.int (11 : Int32)), .val (.int (0 : Int32)), .unset] [(.int (11 : Int32)), (.int (0 : Int32))])) _
    refine XS.icmpNo X1.here hx rfl (hb hby d2_11) rfl (tlt ((by decide) : (0 : Int32) < (11 : Int32))).2.1 ?_
    show Steps p.tables e below (T1.setTop (mkF m 14 #[.val (.int (-5 : Int32)), .val (.ref w_n10), .val (.int (11 : Int32)), .val (.int (0 : Int32)), .unset] [])) _
    refine XS.aloadN X1.here hx rfl (hb hby d2_14) rfl rfl ?_
    show Steps p.tables e below (T1.setTop (mkF m 15 #[.val (.int (-5 : Int32)), .val (.ref w_n10), .val (.int (11 : Int32)), .val (.int (0 : Int32)), .unset] [(.ref w_n10)])) _
    refine XS.iloadN X1.here hx rfl (hb hby d2_15) rfl ?_
    show Steps p.tables e below (T1.setTop (mkF m 16 #[.val (.int (-5 : Int32)), .val (.ref w_n10), .val (.int (11 : Int32)), .val (.int (0 : Int32)), .unset] [(.int (0 : Int32)), (.ref w_n10)])) _
    refine X1.aaload hx (j := (0 : Int32)) (v := (.ref w_OK)) (by rw [e1]; exact Ar3.1) (State.isArrayOf_alike hZ.alike Ar3.2.1) rfl Ar3.2.2 hin3 hat3 (g := (mkF m 16 #[.val (.int (-5 : Int32)), .val (.ref w_n10), .val (.int (11 : Int32)), .val (.int (0 : Int32)), .unset] [(.int (0 : Int32)), (.ref w_n10)])) rfl rfl (hb hby d2_16) _ ?_
    show Steps p.tables e below (T1.setTop (mkF m 17 #[.val (.int (-5 : Int32)), .val (.ref w_n10), .val (.int (11 : Int32)), .val (.int (0 : Int32)), .unset] [(.ref w_OK)])) _
    refine XS.astore X1.here hx rfl (hb hby d2_17) rfl rfl (l' := #[.val (.int (-5 : Int32)), .val (.ref w_n10), .val (.int (11 : Int32)), .val (.int (0 : Int32)), .val (.ref w_OK)]) rfl ?_
    show Steps p.tables e below (T1.setTop (mkF m 19 #[.val (.int (-5 : Int32)), .val (.ref w_n10), .val (.int (11 : Int32)), .val (.int (0 : Int32)), .val (.ref w_OK)] [])) _
    refine XS.aload X1.here hx rfl (hb hby d2_19) rfl rfl ?_
    show Steps p.tables e below (T1.setTop (mkF m 21 #[.val (.int (-5 : Int32)), .val (.ref w_n10), .val (.int (11 : Int32)), .val (.int (0 : Int32)), .val (.ref w_OK)] [(.ref w_OK)])) _
    refine st4 _ ?_
    show Steps p.tables e below (T4.setTop (mkF m 24 #[.val (.int (-5 : Int32)), .val (.ref w_n10), .val (.int (11 : Int32)), .val (.int (0 : Int32)), .val (.ref w_OK)] [(.int (0 : Int32))])) _
    refine XS.iloadN X4.here hx rfl (hb hby d2_24) rfl ?_
    show Steps p.tables e below (T4.setTop (mkF m 25 #[.val (.int (-5 : Int32)), .val (.ref w_n10), .val (.int (11 : Int32)), .val (.int (0 : Int32)), .val (.ref w_OK)] [(.int (-5 : Int32)), (.int (0 : Int32))])) _
    refine XS.icmpYes X4.here hx rfl (pc0 := 25) (pc' := 34) rfl (hb hby d2_25) rfl (feq ((by decide) : ¬ ((0 : Int32) = (-5 : Int32)))).2 (by decide) (by decide) ?_
    show Steps p.tables e below (T4.setTop (mkF m 34 #[.val (.int (-5 : Int32)), .val (.ref w_n10), .val (.int (11 : Int32)), .val (.int (0 : Int32)), .val (.ref w_OK)] [])) _
    refine XS.iinc X4.here hx rfl (hb hby d2_34) rfl (l' := #[.val (.int (-5 : Int32)), .val (.ref w_n10), .val (.int (11 : Int32)), .val (.int ((0 : Int32) + (1 : Int32))), .val (.ref w_OK)]) rfl ?_
    show Steps p.tables e below (T4.setTop (mkF m 37 #[.val (.int (-5 : Int32)), .val (.ref w_n10), .val (.int (11 : Int32)), .val (.int ((0 : Int32) + (1 : Int32))), .val (.ref w_OK)] [])) _
    rw [show ((0 : Int32) + (1 : Int32)) = (1 : Int32) from by decide]
    show Steps p.tables e below (T4.setTop (mkF m 37 #[.val (.int (-5 : Int32)), .val (.ref w_n10), .val (.int (11 : Int32)), .val (.int (1 : Int32)), .val (.ref w_OK)] [])) _
    refine XS.goto X4.here hx rfl (pc0 := 37) (pc' := 9) rfl (hb hby d2_37) (by decide) (by decide) ?_
    show Steps p.tables e below (T4.setTop (mkF m 9 #[.val (.int (-5 : Int32)), .val (.ref w_n10), .val (.int (11 : Int32)), .val (.int (1 : Int32)), .val (.ref w_OK)] [])) _
    refine XS.iloadN X4.here hx rfl (hb hby d2_9) rfl ?_
    show Steps p.tables e below (T4.setTop (mkF m 10 #[.val (.int (-5 : Int32)), .val (.ref w_n10), .val (.int (11 : Int32)), .val (.int (1 : Int32)), .val (.ref w_OK)] [(.int (1 : Int32))])) _
    refine XS.iloadN X4.here hx rfl (hb hby d2_10) rfl ?_
    show Steps p.tables e below (T4.setTop (mkF m 11 #[.val (.int (-5 : Int32)), .val (.ref w_n10), .val (.int (11 : Int32)), .val (.int (1 : Int32)), .val (.ref w_OK)] [(.int (11 : Int32)), (.int (1 : Int32))])) _
    refine XS.icmpNo X4.here hx rfl (hb hby d2_11) rfl (tlt ((by decide) : (1 : Int32) < (11 : Int32))).2.1 ?_
    show Steps p.tables e below (T4.setTop (mkF m 14 #[.val (.int (-5 : Int32)), .val (.ref w_n10), .val (.int (11 : Int32)), .val (.int (1 : Int32)), .val (.ref w_OK)] [])) _
    refine XS.aloadN X4.here hx rfl (hb hby d2_14) rfl rfl ?_
    show Steps p.tables e below (T4.setTop (mkF m 15 #[.val (.int (-5 : Int32)), .val (.ref w_n10), .val (.int (11 : Int32)), .val (.int (1 : Int32)), .val (.ref w_OK)] [(.ref w_n10)])) _
    refine XS.iloadN X4.here hx rfl (hb hby d2_15) rfl ?_
    show Steps p.tables e below (T4.setTop (mkF m 16 #[.val (.int (-5 : Int32)), .val (.ref w_n10), .val (.int (11 : Int32)), .val (.int (1 : Int32)), .val (.ref w_OK)] [(.int (1 : Int32)), (.ref w_n10)])) _
    refine X4.aaload hx (j := (1 : Int32)) (v := (.ref w_n1)) (by rw [e4]; exact Ar5.1) (State.isArrayOf_alike hZ.alike Ar5.2.1) rfl Ar5.2.2 hin5 hat5 (g := (mkF m 16 #[.val (.int (-5 : Int32)), .val (.ref w_n10), .val (.int (11 : Int32)), .val (.int (1 : Int32)), .val (.ref w_OK)] [(.int (1 : Int32)), (.ref w_n10)])) rfl rfl (hb hby d2_16) _ ?_
    show Steps p.tables e below (T4.setTop (mkF m 17 #[.val (.int (-5 : Int32)), .val (.ref w_n10), .val (.int (11 : Int32)), .val (.int (1 : Int32)), .val (.ref w_OK)] [(.ref w_n1)])) _
    refine XS.astore X4.here hx rfl (hb hby d2_17) rfl rfl (l' := #[.val (.int (-5 : Int32)), .val (.ref w_n10), .val (.int (11 : Int32)), .val (.int (1 : Int32)), .val (.ref w_n1)]) rfl ?_
    show Steps p.tables e below (T4.setTop (mkF m 19 #[.val (.int (-5 : Int32)), .val (.ref w_n10), .val (.int (11 : Int32)), .val (.int (1 : Int32)), .val (.ref w_n1)] [])) _
    refine XS.aload X4.here hx rfl (hb hby d2_19) rfl rfl ?_
    show Steps p.tables e below (T4.setTop (mkF m 21 #[.val (.int (-5 : Int32)), .val (.ref w_n10), .val (.int (11 : Int32)), .val (.int (1 : Int32)), .val (.ref w_n1)] [(.ref w_n1)])) _
    refine st6 _ ?_
    show Steps p.tables e below (T6.setTop (mkF m 24 #[.val (.int (-5 : Int32)), .val (.ref w_n10), .val (.int (11 : Int32)), .val (.int (1 : Int32)), .val (.ref w_n1)] [(.int (-2 : Int32))])) _
    refine XS.iloadN X6.here hx rfl (hb hby d2_24) rfl ?_
    show Steps p.tables e below (T6.setTop (mkF m 25 #[.val (.int (-5 : Int32)), .val (.ref w_n10), .val (.int (11 : Int32)), .val (.int (1 : Int32)), .val (.ref w_n1)] [(.int (-5 : Int32)), (.int (-2 : Int32))])) _
    refine XS.icmpYes X6.here hx rfl (pc0 := 25) (pc' := 34) rfl (hb hby d2_25) rfl (feq ((by decide) : ¬ ((-2 : Int32) = (-5 : Int32)))).2 (by decide) (by decide) ?_
    show Steps p.tables e below (T6.setTop (mkF m 34 #[.val (.int (-5 : Int32)), .val (.ref w_n10), .val (.int (11 : Int32)), .val (.int (1 : Int32)), .val (.ref w_n1)] [])) _
    refine XS.iinc X6.here hx rfl (hb hby d2_34) rfl (l' := #[.val (.int (-5 : Int32)), .val (.ref w_n10), .val (.int (11 : Int32)), .val (.int ((1 : Int32) + (1 : Int32))), .val (.ref w_n1)]) rfl ?_
    show Steps p.tables e below (T6.setTop (mkF m 37 #[.val (.int (-5 : Int32)), .val (.ref w_n10), .val (.int (11 : Int32)), .val (.int ((1 : Int32) + (1 : Int32))), .val (.ref w_n1)] [])) _
    rw [show ((1 : Int32) + (1 : Int32)) = (2 : Int32) from by decide]
    show Steps p.tables e below (T6.setTop (mkF m 37 #[.val (.int (-5 : Int32)), .val (.ref w_n10), .val (.int (11 : Int32)), .val (.int (2 : Int32)), .val (.ref w_n1)] [])) _
    refine XS.goto X6.here hx rfl (pc0 := 37) (pc' := 9) rfl (hb hby d2_37) (by decide) (by decide) ?_
    show Steps p.tables e below (T6.setTop (mkF m 9 #[.val (.int (-5 : Int32)), .val (.ref w_n10), .val (.int (11 : Int32)), .val (.int (2 : Int32)), .val (.ref w_n1)] [])) _
    refine XS.iloadN X6.here hx rfl (hb hby d2_9) rfl ?_
    show Steps p.tables e below (T6.setTop (mkF m 10 #[.val (.int (-5 : Int32)), .val (.ref w_n10), .val (.int (11 : Int32)), .val (.int (2 : Int32)), .val (.ref w_n1)] [(.int (2 : Int32))])) _
    refine XS.iloadN X6.here hx rfl (hb hby d2_10) rfl ?_
    show Steps p.tables e below (T6.setTop (mkF m 11 #[.val (.int (-5 : Int32)), .val (.ref w_n10), .val (.int (11 : Int32)), .val (.int (2 : Int32)), .val (.ref w_n1)] [(.int (11 : Int32)), (.int (2 : Int32))])) _
    refine XS.icmpNo X6.here hx rfl (hb hby d2_11) rfl (tlt ((by decide) : (2 : Int32) < (11 : Int32))).2.1 ?_
    show Steps p.tables e below (T6.setTop (mkF m 14 #[.val (.int (-5 : Int32)), .val (.ref w_n10), .val (.int (11 : Int32)), .val (.int (2 : Int32)), .val (.ref w_n1)] [])) _
    refine XS.aloadN X6.here hx rfl (hb hby d2_14) rfl rfl ?_
    show Steps p.tables e below (T6.setTop (mkF m 15 #[.val (.int (-5 : Int32)), .val (.ref w_n10), .val (.int (11 : Int32)), .val (.int (2 : Int32)), .val (.ref w_n1)] [(.ref w_n10)])) _
    refine XS.iloadN X6.here hx rfl (hb hby d2_15) rfl ?_
    show Steps p.tables e below (T6.setTop (mkF m 16 #[.val (.int (-5 : Int32)), .val (.ref w_n10), .val (.int (11 : Int32)), .val (.int (2 : Int32)), .val (.ref w_n1)] [(.int (2 : Int32)), (.ref w_n10)])) _
    refine X6.aaload hx (j := (2 : Int32)) (v := (.ref w_n2)) (by rw [e6]; exact Ar7.1) (State.isArrayOf_alike hZ.alike Ar7.2.1) rfl Ar7.2.2 hin7 hat7 (g := (mkF m 16 #[.val (.int (-5 : Int32)), .val (.ref w_n10), .val (.int (11 : Int32)), .val (.int (2 : Int32)), .val (.ref w_n1)] [(.int (2 : Int32)), (.ref w_n10)])) rfl rfl (hb hby d2_16) _ ?_
    show Steps p.tables e below (T6.setTop (mkF m 17 #[.val (.int (-5 : Int32)), .val (.ref w_n10), .val (.int (11 : Int32)), .val (.int (2 : Int32)), .val (.ref w_n1)] [(.ref w_n2)])) _
    refine XS.astore X6.here hx rfl (hb hby d2_17) rfl rfl (l' := #[.val (.int (-5 : Int32)), .val (.ref w_n10), .val (.int (11 : Int32)), .val (.int (2 : Int32)), .val (.ref w_n2)]) rfl ?_
    show Steps p.tables e below (T6.setTop (mkF m 19 #[.val (.int (-5 : Int32)), .val (.ref w_n10), .val (.int (11 : Int32)), .val (.int (2 : Int32)), .val (.ref w_n2)] [])) _
    refine XS.aload X6.here hx rfl (hb hby d2_19) rfl rfl ?_
    show Steps p.tables e below (T6.setTop (mkF m 21 #[.val (.int (-5 : Int32)), .val (.ref w_n10), .val (.int (11 : Int32)), .val (.int (2 : Int32)), .val (.ref w_n2)] [(.ref w_n2)])) _
    refine st8 _ ?_
    show Steps p.tables e below (T8.setTop (mkF m 24 #[.val (.int (-5 : Int32)), .val (.ref w_n10), .val (.int (11 : Int32)), .val (.int (2 : Int32)), .val (.ref w_n2)] [(.int (-5 : Int32))])) _
    refine XS.iloadN X8.here hx rfl (hb hby d2_24) rfl ?_
    show Steps p.tables e below (T8.setTop (mkF m 25 #[.val (.int (-5 : Int32)), .val (.ref w_n10), .val (.int (11 : Int32)), .val (.int (2 : Int32)), .val (.ref w_n2)] [(.int (-5 : Int32)), (.int (-5 : Int32))])) _
    refine XS.icmpNo X8.here hx rfl (hb hby d2_25) rfl (teq ((by decide) : (-5 : Int32) = (-5 : Int32))).2 ?_
    show Steps p.tables e below (T8.setTop (mkF m 28 #[.val (.int (-5 : Int32)), .val (.ref w_n10), .val (.int (11 : Int32)), .val (.int (2 : Int32)), .val (.ref w_n2)] [])) _
    refine XS.aload X8.here hx rfl (hb hby d2_28) rfl rfl ?_
    show Steps p.tables e below (T8.setTop (mkF m 30 #[.val (.int (-5 : Int32)), .val (.ref w_n10), .val (.int (11 : Int32)), .val (.int (2 : Int32)), .val (.ref w_n2)] [(.ref w_n2)])) _
    refine st9 _ ?_
    show Steps p.tables e below (T9.setTop (mkF m 33 #[.val (.int (-5 : Int32)), .val (.ref w_n10), .val (.int (11 : Int32)), .val (.int (2 : Int32)), .val (.ref w_n2)] [(.ref b9_b1)])) _
    jvm_step X9.here [X9.here.top, hx, (hb hby d2_33), X9.method', Bd.returns, Value.isRef, FieldType.isReference]
    first | (intro acts; rw [hr _ acts rfl rfl rfl]) | rw [hr _ _ rfl rfl rfl]
    exact Steps.refl _
  · show QW (fun v h => ∃ b9_b1 : Addr, v = some (.ref b9_b1) ∧ Keep h0 h [] ∧ n0 ≤ b9_b1 ∧ h0.size ≤ b9_b1 ∧ Exa Z h b9_b1 "java/util/Optional" ∧ Fld Z h b9_b1 "java/util/Optional" "value" "Ljava/lang/Object;" (.ref w_n2)) n0 _ T9.heap _
    exact ⟨N9, ⟨b9_b1, rfl, K9, g_b9_b1, sz_b9_b1, fp9_0, fp9_1⟩⟩
theorem d8_18 : decode method_2_code 18 = .ok (.iload_n 0, 1) := by decide +kernel
theorem d8_19 : decode method_2_code 19 = .ok (.bipush (-5), 2) := by decide +kernel
theorem d8_21 : decode method_2_code 21 = .ok (.if_icmp .ne 7, 3) := by decide +kernel
theorem d8_24 : decode method_2_code 24 = .ok (.getstatic 16, 3) := by decide +kernel
theorem d8_27 : decode method_2_code 27 = .ok (.areturn, 1) := by decide +kernel
set_option maxRecDepth 65536 in
set_option maxHeartbeats 40000000 in
theorem rm_ex2 (l : Launch) (Z : State) (a0 : Array Value) (hw : ∀ d ∈ tables_1, d.before a0 Z = true) (ws : List Jvm.Cond) {w_n5 : Addr} {w_n10 : Addr} {w_OK : Addr} {w_n1 : Addr} {w_n2 : Addr} {w_n4 : Addr} {w_n9 : Addr} {w_n6 : Addr} {w_n0 : Addr} {w_n7 : Addr} {w_n8 : Addr} {w_n3 : Addr} {w_n11 : Addr} {k_n10 : ClassId} (W : Wd Z w_n5 w_n10 w_OK w_n1 w_n2 w_n4 w_n9 w_n6 w_n0 w_n7 w_n8 w_n3 w_n11 k_n10) (h0 : Heap) (n0 : Nat) (O0 : Old Z n0 h0) :
    MetFree l (⟨"com/example/usher/usher/wire/ErrorCodeForCodePinLaw", "expected", "(I)Lcom/example/usher/usher/wire/ErrorCode;"⟩ : MethodName) (head1 (Jvm.Cond.code (⟨"com/example/usher/usher/wire/ErrorCodeForCodePinLaw", "expected", "(I)Lcom/example/usher/usher/wire/ErrorCode;"⟩ : MethodName) method_2_code 1 (some (.object "com/example/usher/usher/wire/ErrorCode")) :: ws) ({ frames := 0, cells := 0, slots := 0, locals := 0 } : Room)) (fun a U => a = #[(.int (-5 : Int32))] ∧ Z.Warmed39 U.vm ∧ U.heap = h0) (fun _ _ _ _ _ => True) (fun _ U o U' => ∃ v L, o = .returned v ∧ QP (some (.ref w_n2)) h0 n0 v U'.heap L ∧ FrameEnd U o U' L ({ frames := 0, cells := 0, slots := 0, locals := 0 } : Room).cells ({ frames := 0, cells := 0, slots := 0, locals := 0 } : Room).slots) := by
  have W' := W; obtain ⟨S_n5, E_n5, S_n10, S_OK, E_OK, S_n1, E_n1, S_n2, E_n2, S_n4, E_n4, S_n9, E_n9, S_n6, E_n6, S_n0, E_n0, S_n7, E_n7, S_n8, E_n8, S_n3, E_n3, S_n11, E_n11, F_OK_code, F_n5_code, F_n1_code, F_n2_code, F_n4_code, F_n9_code, F_n6_code, F_n0_code, F_n7_code, F_n8_code, F_n3_code, F_n11_value, V_n10⟩ := W'
  refine MetFree.of_bodySF (plainFor_of_name pn_8) hisR ?_
  intro p e s m args below meth c s₁ Bd hml0 hP hK
  obtain ⟨rfl, hZ, hh⟩ := hP
  have hx := Bd.exec
  have hby := Bd.bytes
  have hml : c.maxLocals = 1 := hml0
  have hown : s.vm.findClass "com/example/usher/usher/wire/ErrorCodeForCodePinLaw" = some m.cls := findClass_of_methodNamed Bd.named
  have hnm := (name_of_methodNamed Bd.named Bd.method).1
  have X0 : Stand p l e ({ frames := 0, cells := 0, slots := 0, locals := 0 } : Room) s m #[(.int (-5 : Int32))] below meth c s₁ [] 0 0 := Stand.of_body Bd
  have e0 : s₁.heap = h0 := by rw [← hh, Bd.state]; rfl
  have N0 := Fr.nil n0
  have pre0 : ∀ t, Steps p.tables e below (s₁.setTop (mkF m 0 #[.val (.int (-5 : Int32))] [])) t → Steps p.tables e below (s₁.setTop (entryFrame m #[(.int (-5 : Int32))] 1)) t := fun t k => castTop (ef_8_5 m (-5 : Int32)) k
  obtain ⟨T1, X1, e1, st1⟩ := getS2 X0 hx hZ hown (host := "") (Or.inl (hw _ (List.mem_of_getElem? (i := 68) rfl))) Via.refl e0 (S_n2.ext O0.2) (g := (mkF m 24 #[.val (.int (-5 : Int32))] [])) rfl (hb hby d8_24)
  obtain ⟨fs, hr, hrun, hended, hW, hsame⟩ := X1.leave (v := some (.ref w_n2)) (fun h => by rw [Bd.returns] at h; cases h)
  refine ⟨_, _, pre0 _ ?_, hrun, hended, _, _, rfl, ?_, ⟨_, rfl⟩, hW, hsame.mono (by decide) (by decide)⟩
  · show Steps p.tables e below (s₁.setTop (mkF m 0 #[.val (.int (-5 : Int32))] [])) _
    refine XS.iloadN X0.here hx rfl (hb hby d8_0) rfl ?_
    show Steps p.tables e below (s₁.setTop (mkF m 1 #[.val (.int (-5 : Int32))] [(.int (-5 : Int32))])) _
    refine XS.ifYes X0.here hx rfl (pc0 := 1) (pc' := 8) rfl (hb hby d8_1) rfl ((if0 _ _).trans (feq ((by decide) : ¬ ((-5 : Int32) = (0 : Int32)))).2) (by decide) (by decide) ?_
    show Steps p.tables e below (s₁.setTop (mkF m 8 #[.val (.int (-5 : Int32))] [])) _
    refine XS.iloadN X0.here hx rfl (hb hby d8_8) rfl ?_
    show Steps p.tables e below (s₁.setTop (mkF m 9 #[.val (.int (-5 : Int32))] [(.int (-5 : Int32))])) _
    refine XS.bipush X0.here hx rfl (hb hby d8_9) ?_
    show Steps p.tables e below (s₁.setTop (mkF m 11 #[.val (.int (-5 : Int32))] [(.int (-2 : Int32)), (.int (-5 : Int32))])) _
    refine XS.icmpYes X0.here hx rfl (pc0 := 11) (pc' := 18) rfl (hb hby d8_11) rfl (feq ((by decide) : ¬ ((-5 : Int32) = (-2 : Int32)))).2 (by decide) (by decide) ?_
    show Steps p.tables e below (s₁.setTop (mkF m 18 #[.val (.int (-5 : Int32))] [])) _
    refine XS.iloadN X0.here hx rfl (hb hby d8_18) rfl ?_
    show Steps p.tables e below (s₁.setTop (mkF m 19 #[.val (.int (-5 : Int32))] [(.int (-5 : Int32))])) _
    refine XS.bipush X0.here hx rfl (hb hby d8_19) ?_
    show Steps p.tables e below (s₁.setTop (mkF m 21 #[.val (.int (-5 : Int32))] [(.int (-5 : Int32)), (.int (-5 : Int32))])) _
    refine XS.icmpNo X0.here hx rfl (hb hby d8_21) rfl (teq ((by decide) : (-5 : Int32) = (-5 : Int32))).2 ?_
    show Steps p.tables e below (s₁.setTop (mkF m 24 #[.val (.int (-5 : Int32))] [])) _
    refine st1 _ ?_
    show Steps p.tables e below (T1.setTop (mkF m 27 #[.val (.int (-5 : Int32))] [(.ref w_n2)])) _
    jvm_step X1.here [X1.here.top, hx, (hb hby d8_27), X1.method', Bd.returns, Value.isRef, FieldType.isReference]
    first | (intro acts; rw [hr _ acts rfl rfl rfl]) | rw [hr _ _ rfl rfl rfl]
    exact Steps.refl _
  · show QP (some (.ref w_n2)) h0 n0 _ T1.heap _
    rw [e1]
    exact ⟨rfl, N0, rfl⟩
theorem d1_17 : decode method_3_code 17 = .ok (.iload_n 0, 1) := by decide +kernel
theorem d1_18 : decode method_3_code 18 = .ok (.iconst 2, 1) := by decide +kernel
theorem d1_19 : decode method_3_code 19 = .ok (.if_icmp .ne 7, 3) := by decide +kernel
theorem d1_22 : decode method_3_code 22 = .ok (.getstatic 16, 3) := by decide +kernel
theorem d1_25 : decode method_3_code 25 = .ok (.areturn, 1) := by decide +kernel
set_option maxRecDepth 65536 in
set_option maxHeartbeats 40000000 in
theorem rm_pk2 (l : Launch) (Z : State) (a0 : Array Value) (hw : ∀ d ∈ tables_1, d.before a0 Z = true) (ws : List Jvm.Cond) {w_n5 : Addr} {w_n10 : Addr} {w_OK : Addr} {w_n1 : Addr} {w_n2 : Addr} {w_n4 : Addr} {w_n9 : Addr} {w_n6 : Addr} {w_n0 : Addr} {w_n7 : Addr} {w_n8 : Addr} {w_n3 : Addr} {w_n11 : Addr} {k_n10 : ClassId} (W : Wd Z w_n5 w_n10 w_OK w_n1 w_n2 w_n4 w_n9 w_n6 w_n0 w_n7 w_n8 w_n3 w_n11 k_n10) (h0 : Heap) (n0 : Nat) (O0 : Old Z n0 h0) :
    MetFree l (⟨"com/example/usher/usher/wire/ErrorCodeForCodePinLaw", "pick", "(I)Lcom/example/usher/usher/wire/ErrorCode;"⟩ : MethodName) (head1 (Jvm.Cond.code (⟨"com/example/usher/usher/wire/ErrorCodeForCodePinLaw", "pick", "(I)Lcom/example/usher/usher/wire/ErrorCode;"⟩ : MethodName) method_3_code 1 (some (.object "com/example/usher/usher/wire/ErrorCode")) :: ws) ({ frames := 0, cells := 0, slots := 0, locals := 0 } : Room)) (fun a U => a = #[(.int (2 : Int32))] ∧ Z.Warmed39 U.vm ∧ U.heap = h0) (fun _ _ _ _ _ => True) (fun _ U o U' => ∃ v L, o = .returned v ∧ QP (some (.ref w_n2)) h0 n0 v U'.heap L ∧ FrameEnd U o U' L ({ frames := 0, cells := 0, slots := 0, locals := 0 } : Room).cells ({ frames := 0, cells := 0, slots := 0, locals := 0 } : Room).slots) := by
  have W' := W; obtain ⟨S_n5, E_n5, S_n10, S_OK, E_OK, S_n1, E_n1, S_n2, E_n2, S_n4, E_n4, S_n9, E_n9, S_n6, E_n6, S_n0, E_n0, S_n7, E_n7, S_n8, E_n8, S_n3, E_n3, S_n11, E_n11, F_OK_code, F_n5_code, F_n1_code, F_n2_code, F_n4_code, F_n9_code, F_n6_code, F_n0_code, F_n7_code, F_n8_code, F_n3_code, F_n11_value, V_n10⟩ := W'
  refine MetFree.of_bodySF (plainFor_of_name pn_1) hisR ?_
  intro p e s m args below meth c s₁ Bd hml0 hP hK
  obtain ⟨rfl, hZ, hh⟩ := hP
  have hx := Bd.exec
  have hby := Bd.bytes
  have hml : c.maxLocals = 1 := hml0
  have hown : s.vm.findClass "com/example/usher/usher/wire/ErrorCodeForCodePinLaw" = some m.cls := findClass_of_methodNamed Bd.named
  have hnm := (name_of_methodNamed Bd.named Bd.method).1
  have X0 : Stand p l e ({ frames := 0, cells := 0, slots := 0, locals := 0 } : Room) s m #[(.int (2 : Int32))] below meth c s₁ [] 0 0 := Stand.of_body Bd
  have e0 : s₁.heap = h0 := by rw [← hh, Bd.state]; rfl
  have N0 := Fr.nil n0
  have pre0 : ∀ t, Steps p.tables e below (s₁.setTop (mkF m 0 #[.val (.int (2 : Int32))] [])) t → Steps p.tables e below (s₁.setTop (entryFrame m #[(.int (2 : Int32))] 1)) t := fun t k => castTop (ef_1_6 m (2 : Int32)) k
  obtain ⟨T1, X1, e1, st1⟩ := getS2 X0 hx hZ hown (host := "") (Or.inl (hw _ (List.mem_of_getElem? (i := 68) rfl))) Via.refl e0 (S_n2.ext O0.2) (g := (mkF m 22 #[.val (.int (2 : Int32))] [])) rfl (hb hby d1_22)
  obtain ⟨fs, hr, hrun, hended, hW, hsame⟩ := X1.leave (v := some (.ref w_n2)) (fun h => by rw [Bd.returns] at h; cases h)
  refine ⟨_, _, pre0 _ ?_, hrun, hended, _, _, rfl, ?_, ⟨_, rfl⟩, hW, hsame.mono (by decide) (by decide)⟩
  · show Steps p.tables e below (s₁.setTop (mkF m 0 #[.val (.int (2 : Int32))] [])) _
    refine XS.iloadN X0.here hx rfl (hb hby d1_0) rfl ?_
    show Steps p.tables e below (s₁.setTop (mkF m 1 #[.val (.int (2 : Int32))] [(.int (2 : Int32))])) _
    refine XS.ifYes X0.here hx rfl (pc0 := 1) (pc' := 8) rfl (hb hby d1_1) rfl ((if0 _ _).trans (feq ((by decide) : ¬ ((2 : Int32) = (0 : Int32)))).2) (by decide) (by decide) ?_
    show Steps p.tables e below (s₁.setTop (mkF m 8 #[.val (.int (2 : Int32))] [])) _
    refine XS.iloadN X0.here hx rfl (hb hby d1_8) rfl ?_
    show Steps p.tables e below (s₁.setTop (mkF m 9 #[.val (.int (2 : Int32))] [(.int (2 : Int32))])) _
    refine XS.iconst X0.here hx rfl (hb hby d1_9) ?_
    show Steps p.tables e below (s₁.setTop (mkF m 10 #[.val (.int (2 : Int32))] [(.int (1 : Int32)), (.int (2 : Int32))])) _
    refine XS.icmpYes X0.here hx rfl (pc0 := 10) (pc' := 17) rfl (hb hby d1_10) rfl (feq ((by decide) : ¬ ((2 : Int32) = (1 : Int32)))).2 (by decide) (by decide) ?_
    show Steps p.tables e below (s₁.setTop (mkF m 17 #[.val (.int (2 : Int32))] [])) _
    refine XS.iloadN X0.here hx rfl (hb hby d1_17) rfl ?_
    show Steps p.tables e below (s₁.setTop (mkF m 18 #[.val (.int (2 : Int32))] [(.int (2 : Int32))])) _
    refine XS.iconst X0.here hx rfl (hb hby d1_18) ?_
    show Steps p.tables e below (s₁.setTop (mkF m 19 #[.val (.int (2 : Int32))] [(.int (2 : Int32)), (.int (2 : Int32))])) _
    refine XS.icmpNo X0.here hx rfl (hb hby d1_19) rfl (teq ((by decide) : (2 : Int32) = (2 : Int32))).2 ?_
    show Steps p.tables e below (s₁.setTop (mkF m 22 #[.val (.int (2 : Int32))] [])) _
    refine st1 _ ?_
    show Steps p.tables e below (T1.setTop (mkF m 25 #[.val (.int (2 : Int32))] [(.ref w_n2)])) _
    jvm_step X1.here [X1.here.top, hx, (hb hby d1_25), X1.method', Bd.returns, Value.isRef, FieldType.isReference]
    first | (intro acts; rw [hr _ acts rfl rfl rfl]) | rw [hr _ _ rfl rfl rfl]
    exact Steps.refl _
  · show QP (some (.ref w_n2)) h0 n0 _ T1.heap _
    rw [e1]
    exact ⟨rfl, N0, rfl⟩
set_option maxRecDepth 65536 in
set_option maxHeartbeats 40000000 in
theorem rm_fc3 (l : Launch) (Z : State) (a0 : Array Value) (hw : ∀ d ∈ tables_1, d.before a0 Z = true) (ws : List Jvm.Cond) {w_n5 : Addr} {w_n10 : Addr} {w_OK : Addr} {w_n1 : Addr} {w_n2 : Addr} {w_n4 : Addr} {w_n9 : Addr} {w_n6 : Addr} {w_n0 : Addr} {w_n7 : Addr} {w_n8 : Addr} {w_n3 : Addr} {w_n11 : Addr} {k_n10 : ClassId} (W : Wd Z w_n5 w_n10 w_OK w_n1 w_n2 w_n4 w_n9 w_n6 w_n0 w_n7 w_n8 w_n3 w_n11 k_n10) (h0 : Heap) (n0 : Nat) (O0 : Old Z n0 h0) :
    MetFree l (⟨"com/example/usher/usher/wire/ErrorCode", "forCode", "(I)Ljava/util/Optional;"⟩ : MethodName) (head1 (Jvm.Cond.code (⟨"com/example/usher/usher/wire/ErrorCode", "forCode", "(I)Ljava/util/Optional;"⟩ : MethodName) prog_14_method_5_code 5 (some (.object "java/util/Optional")) :: ws) ({ frames := 3, cells := 1, slots := 1, locals := 38 } : Room)) (fun a U => a = #[(.int (-6 : Int32))] ∧ Z.Warmed39 U.vm ∧ U.heap = h0) (fun _ _ _ _ _ => True) (fun _ U o U' => ∃ v L, o = .returned v ∧ QW (fun v h => ∃ b11_b1 : Addr, v = some (.ref b11_b1) ∧ Keep h0 h [] ∧ n0 ≤ b11_b1 ∧ h0.size ≤ b11_b1 ∧ Exa Z h b11_b1 "java/util/Optional" ∧ Fld Z h b11_b1 "java/util/Optional" "value" "Ljava/lang/Object;" (.ref w_n5)) n0 v U'.heap L ∧ FrameEnd U o U' L ({ frames := 3, cells := 1, slots := 1, locals := 38 } : Room).cells ({ frames := 3, cells := 1, slots := 1, locals := 38 } : Room).slots) := by
  have W' := W; obtain ⟨S_n5, E_n5, S_n10, S_OK, E_OK, S_n1, E_n1, S_n2, E_n2, S_n4, E_n4, S_n9, E_n9, S_n6, E_n6, S_n0, E_n0, S_n7, E_n7, S_n8, E_n8, S_n3, E_n3, S_n11, E_n11, F_OK_code, F_n5_code, F_n1_code, F_n2_code, F_n4_code, F_n9_code, F_n6_code, F_n0_code, F_n7_code, F_n8_code, F_n3_code, F_n11_value, V_n10⟩ := W'
  refine MetFree.of_bodySF (plainFor_of_name pn_2) hisR ?_
  intro p e s m args below meth c s₁ Bd hml0 hP hK
  obtain ⟨rfl, hZ, hh⟩ := hP
  have hx := Bd.exec
  have hby := Bd.bytes
  have hml : c.maxLocals = 5 := hml0
  have hown : s.vm.findClass "com/example/usher/usher/wire/ErrorCode" = some m.cls := findClass_of_methodNamed Bd.named
  have hnm := (name_of_methodNamed Bd.named Bd.method).1
  have X0 : Stand p l e ({ frames := 3, cells := 1, slots := 1, locals := 38 } : Room) s m #[(.int (-6 : Int32))] below meth c s₁ [] 0 0 := Stand.of_body Bd
  have e0 : s₁.heap = h0 := by rw [← hh, Bd.state]; rfl
  have N0 := Fr.nil n0
  have pre0 : ∀ t, Steps p.tables e below (s₁.setTop (mkF m 0 #[.val (.int (-6 : Int32)), .unset, .unset, .unset, .unset] [])) t → Steps p.tables e below (s₁.setTop (entryFrame m #[(.int (-6 : Int32))] 5)) t := fun t k => castTop (ef_2_4 m (-6 : Int32)) k
  obtain ⟨T1, X1, e1, st1⟩ := getS2 X0 hx hZ hown (host := "") (Or.inl (hw _ (List.mem_of_getElem? (i := 11) rfl))) Via.refl e0 (S_n10.ext O0.2) (g := (mkF m 0 #[.val (.int (-6 : Int32)), .unset, .unset, .unset, .unset] [])) rfl (hb hby d2_0)
  obtain ⟨cl2, Ar2, qk2, Sz2, Nz2, Hs2, Gs2⟩ := id (V_n10.ext O0.2)
  obtain ⟨cl3, Ar3, qk3, Sz3, Nz3, Hs3, Gs3⟩ := id (V_n10.ext O0.2)
  have hin3 : ¬ ((0 : Int32) < 0 ∨ cl3.slots.size ≤ ((0 : Int32)).toNatClampNeg) := inb_of Sz3 ⟨by decide, by decide⟩
  have hat3 : cl3.slots[((0 : Int32)).toNatClampNeg]? = some (.ref w_OK) := Has.at Hs3 hin3 rfl
  obtain ⟨T4, X4, e4, st4⟩ := getF X1 hx hZ hown (host := "") (Or.inl (hw _ (List.mem_of_getElem? (i := 14) rfl))) Via.refl e1 (F_OK_code.ext O0.2) (g := (mkF m 21 #[.val (.int (-6 : Int32)), .val (.ref w_n10), .val (.int (11 : Int32)), .val (.int (0 : Int32)), .val (.ref w_OK)] [(.ref w_OK)])) rfl rfl (hb hby d2_21)
  obtain ⟨cl5, Ar5, qk5, Sz5, Nz5, Hs5, Gs5⟩ := id (V_n10.ext O0.2)
  have hin5 : ¬ ((1 : Int32) < 0 ∨ cl5.slots.size ≤ ((1 : Int32)).toNatClampNeg) := inb_of Sz5 ⟨by decide, by decide⟩
  have hat5 : cl5.slots[((1 : Int32)).toNatClampNeg]? = some (.ref w_n1) := Has.at Hs5 hin5 rfl
  obtain ⟨T6, X6, e6, st6⟩ := getF X4 hx hZ hown (host := "") (Or.inl (hw _ (List.mem_of_getElem? (i := 14) rfl))) Via.refl e4 (F_n1_code.ext O0.2) (g := (mkF m 21 #[.val (.int (-6 : Int32)), .val (.ref w_n10), .val (.int (11 : Int32)), .val (.int (1 : Int32)), .val (.ref w_n1)] [(.ref w_n1)])) rfl rfl (hb hby d2_21)
  obtain ⟨cl7, Ar7, qk7, Sz7, Nz7, Hs7, Gs7⟩ := id (V_n10.ext O0.2)
  have hin7 : ¬ ((2 : Int32) < 0 ∨ cl7.slots.size ≤ ((2 : Int32)).toNatClampNeg) := inb_of Sz7 ⟨by decide, by decide⟩
  have hat7 : cl7.slots[((2 : Int32)).toNatClampNeg]? = some (.ref w_n2) := Has.at Hs7 hin7 rfl
  obtain ⟨T8, X8, e8, st8⟩ := getF X6 hx hZ hown (host := "") (Or.inl (hw _ (List.mem_of_getElem? (i := 14) rfl))) Via.refl e6 (F_n2_code.ext O0.2) (g := (mkF m 21 #[.val (.int (-6 : Int32)), .val (.ref w_n10), .val (.int (11 : Int32)), .val (.int (2 : Int32)), .val (.ref w_n2)] [(.ref w_n2)])) rfl rfl (hb hby d2_21)
  obtain ⟨cl9, Ar9, qk9, Sz9, Nz9, Hs9, Gs9⟩ := id (V_n10.ext O0.2)
  have hin9 : ¬ ((3 : Int32) < 0 ∨ cl9.slots.size ≤ ((3 : Int32)).toNatClampNeg) := inb_of Sz9 ⟨by decide, by decide⟩
  have hat9 : cl9.slots[((3 : Int32)).toNatClampNeg]? = some (.ref w_n5) := Has.at Hs9 hin9 rfl
  obtain ⟨T10, X10, e10, st10⟩ := getF X8 hx hZ hown (host := "") (Or.inl (hw _ (List.mem_of_getElem? (i := 14) rfl))) Via.refl e8 (F_n5_code.ext O0.2) (g := (mkF m 21 #[.val (.int (-6 : Int32)), .val (.ref w_n10), .val (.int (11 : Int32)), .val (.int (3 : Int32)), .val (.ref w_n5)] [(.ref w_n5)])) rfl rfl (hb hby d2_21)
  obtain ⟨_, _, ⟨T11, L11, k11, n11⟩, -, X11, ⟨Lc11, hQ11, l11, y11, z11⟩, st11⟩ := Jvm.LawKit.callS X10 hx (y := (⟨"java/util/Optional", "of", "(Ljava/lang/Object;)Ljava/util/Optional;"⟩ : MethodName)) hown (mvT hZ (hw _ (List.mem_of_getElem? (i := 16) rfl))) (mvT hZ (hw _ (List.mem_of_getElem? (i := 17) rfl))) (mvT hZ (hw _ (List.mem_of_getElem? (i := 18) rfl))) (mvT hZ (hw _ (List.mem_of_getElem? (i := 19) rfl))) (by decide) (backOf (W := 0) (rm_of l Z a0 hw [] W w_n5 h0 n0 O0 ) hZ (hw _ (List.mem_of_getElem? (i := 19) rfl)) (hw _ (List.mem_of_getElem? (i := 18) rfl)) (by decide) (by decide)) (g := (mkF m 30 #[.val (.int (-6 : Int32)), .val (.ref w_n10), .val (.int (11 : Int32)), .val (.int (3 : Int32)), .val (.ref w_n5)] [(.ref w_n5)])) rfl (by rw [hml]; rfl) (argsL := [(.ref w_n5)]) (rest := []) (lenOf pd_2 rfl) rfl (by show 2 * 0 + _ ≤ _; exact Nat.le_of_eq rfl) (hb hby d2_30) (fun _ _ => ⟨rfl, e10, (by decide : 0 + 1 ≤ _), (by decide : 0 + 1 ≤ _)⟩)
  dsimp only [Pt.U, Pt.locs, Pt.cells, Pt.slots] at X11 l11 y11 z11 st11 hQ11
  subst l11 y11 z11
  obtain ⟨N11q, hP11⟩ := hQ11
  have N11 := Fr.app N0 N11q
  obtain ⟨b11_b1, rfl, Kp11, g_b11_b1, si_b11_b1, fp11_0, fp11_1⟩ := hP11
  have O11 := O0.keep Kp11 all0
  have sz_b11_b1 : h0.size ≤ b11_b1 := Nat.le_trans ((Keep.refl h0 [])).1 si_b11_b1
  have K11 : Keep h0 T11.heap [] := (Keep.refl h0 []).trans Kp11 all0
  obtain ⟨fs, hr, hrun, hended, hW, hsame⟩ := X11.leave (v := some (.ref b11_b1)) (fun h => by rw [Bd.returns] at h; cases h)
  refine ⟨_, _, pre0 _ ?_, hrun, hended, _, _, rfl, ?_, ⟨_, rfl⟩, hW, hsame.mono (by decide) (by decide)⟩
  · show Steps p.tables e below (s₁.setTop (mkF m 0 #[.val (.int (-6 : Int32)), .unset, .unset, .unset, .unset] [])) _
    refine st1 _ ?_
    show Steps p.tables e below (T1.setTop (mkF m 3 #[.val (.int (-6 : Int32)), .unset, .unset, .unset, .unset] [(.ref w_n10)])) _
    refine XS.astoreN X1.here hx rfl (hb hby d2_3) rfl rfl (l' := #[.val (.int (-6 : Int32)), .val (.ref w_n10), .unset, .unset, .unset]) rfl ?_
    show Steps p.tables e below (T1.setTop (mkF m 4 #[.val (.int (-6 : Int32)), .val (.ref w_n10), .unset, .unset, .unset] [])) _
    refine XS.aloadN X1.here hx rfl (hb hby d2_4) rfl rfl ?_
    show Steps p.tables e below (T1.setTop (mkF m 5 #[.val (.int (-6 : Int32)), .val (.ref w_n10), .unset, .unset, .unset] [(.ref w_n10)])) _
    refine X1.arraylength hx (by rw [e1]; exact Ar2.1) (State.isArrayOf_alike hZ.alike Ar2.2.1) (g := (mkF m 5 #[.val (.int (-6 : Int32)), .val (.ref w_n10), .unset, .unset, .unset] [(.ref w_n10)])) rfl rfl (hb hby d2_5) _ ?_
    rw [len_of Sz2 Nz2]
    show Steps p.tables e below (T1.setTop (mkF m 6 #[.val (.int (-6 : Int32)), .val (.ref w_n10), .unset, .unset, .unset] [(.int (11 : Int32))])) _
    refine XS.istoreN X1.here hx rfl (hb hby d2_6) rfl (l' := #[.val (.int (-6 : Int32)), .val (.ref w_n10), .val (.int (11 : Int32)), .unset, .unset]) rfl ?_
    show Steps p.tables e below (T1.setTop (mkF m 7 #[.val (.int (-6 : Int32)), .val (.ref w_n10), .val (.int (11 : Int32)), .unset, .unset] [])) _
    refine XS.iconst X1.here hx rfl (hb hby d2_7) ?_
    show Steps p.tables e below (T1.setTop (mkF m 8 #[.val (.int (-6 : Int32)), .val (.ref w_n10), .val (.int (11 : Int32)), .unset, .unset] [(.int (0 : Int32))])) _
    refine XS.istoreN X1.here hx rfl (hb hby d2_8) rfl (l' := #[.val (.int (-6 : Int32)), .val (.ref w_n10), .val (.int (11 : Int32)), .val (.int (0 : Int32)), .unset]) rfl ?_
    show Steps p.tables e below (T1.setTop (mkF m 9 #[.val (.int (-6 : Int32)), .val (.ref w_n10), .val (.int (11 : Int32)), .val (.int (0 : Int32)), .unset] [])) _
    refine XS.iloadN X1.here hx rfl (hb hby d2_9) rfl ?_
    show Steps p.tables e below (T1.setTop (mkF m 10 #[.val (.int (-6 : Int32)), .val (.ref w_n10), .val (.int (11 : Int32)), .val (.int (0 : Int32)), .unset] [(.int (0 : Int32))])) _
    refine XS.iloadN X1.here hx rfl (hb hby d2_10) rfl ?_
    show Steps p.tables e below (T1.setTop (mkF m 11 #[.val (.int (-6 : Int32)), .val (.ref w_n10), .val (.int (11 : Int32)), .val (.int (0 : Int32)), .unset] [(.int (11 : Int32)), (.int (0 : Int32))])) _
    refine XS.icmpNo X1.here hx rfl (hb hby d2_11) rfl (tlt ((by decide) : (0 : Int32) < (11 : Int32))).2.1 ?_
    show Steps p.tables e below (T1.setTop (mkF m 14 #[.val (.int (-6 : Int32)), .val (.ref w_n10), .val (.int (11 : Int32)), .val (.int (0 : Int32)), .unset] [])) _
    refine XS.aloadN X1.here hx rfl (hb hby d2_14) rfl rfl ?_
    show Steps p.tables e below (T1.setTop (mkF m 15 #[.val (.int (-6 : Int32)), .val (.ref w_n10), .val (.int (11 : Int32)), .val (.int (0 : Int32)), .unset] [(.ref w_n10)])) _
    refine XS.iloadN X1.here hx rfl (hb hby d2_15) rfl ?_
    show Steps p.tables e below (T1.setTop (mkF m 16 #[.val (.int (-6 : Int32)), .val (.ref w_n10), .val (.int (11 : Int32)), .val (.int (0 : Int32)), .unset] [(.int (0 : Int32)), (.ref w_n10)])) _
    refine X1.aaload hx (j := (0 : Int32)) (v := (.ref w_OK)) (by rw [e1]; exact Ar3.1) (State.isArrayOf_alike hZ.alike Ar3.2.1) rfl Ar3.2.2 hin3 hat3 (g := (mkF m 16 #[.val (.int (-6 : Int32)), .val (.ref w_n10), .val (.int (11 : Int32)), .val (.int (0 : Int32)), .unset] [(.int (0 : Int32)), (.ref w_n10)])) rfl rfl (hb hby d2_16) _ ?_
    show Steps p.tables e below (T1.setTop (mkF m 17 #[.val (.int (-6 : Int32)), .val (.ref w_n10), .val (.int (11 : Int32)), .val (.int (0 : Int32)), .unset] [(.ref w_OK)])) _
    refine XS.astore X1.here hx rfl (hb hby d2_17) rfl rfl (l' := #[.val (.int (-6 : Int32)), .val (.ref w_n10), .val (.int (11 : Int32)), .val (.int (0 : Int32)), .val (.ref w_OK)]) rfl ?_
    show Steps p.tables e below (T1.setTop (mkF m 19 #[.val (.int (-6 : Int32)), .val (.ref w_n10), .val (.int (11 : Int32)), .val (.int (0 : Int32)), .val (.ref w_OK)] [])) _
    refine XS.aload X1.here hx rfl (hb hby d2_19) rfl rfl ?_
    show Steps p.tables e below (T1.setTop (mkF m 21 #[.val (.int (-6 : Int32)), .val (.ref w_n10), .val (.int (11 : Int32)), .val (.int (0 : Int32)), .val (.ref w_OK)] [(.ref w_OK)])) _
    refine st4 _ ?_
    show Steps p.tables e below (T4.setTop (mkF m 24 #[.val (.int (-6 : Int32)), .val (.ref w_n10), .val (.int (11 : Int32)), .val (.int (0 : Int32)), .val (.ref w_OK)] [(.int (0 : Int32))])) _
    refine XS.iloadN X4.here hx rfl (hb hby d2_24) rfl ?_
    show Steps p.tables e below (T4.setTop (mkF m 25 #[.val (.int (-6 : Int32)), .val (.ref w_n10), .val (.int (11 : Int32)), .val (.int (0 : Int32)), .val (.ref w_OK)] [(.int (-6 : Int32)), (.int (0 : Int32))])) _
    refine XS.icmpYes X4.here hx rfl (pc0 := 25) (pc' := 34) rfl (hb hby d2_25) rfl (feq ((by decide) : ¬ ((0 : Int32) = (-6 : Int32)))).2 (by decide) (by decide) ?_
    show Steps p.tables e below (T4.setTop (mkF m 34 #[.val (.int (-6 : Int32)), .val (.ref w_n10), .val (.int (11 : Int32)), .val (.int (0 : Int32)), .val (.ref w_OK)] [])) _
    refine XS.iinc X4.here hx rfl (hb hby d2_34) rfl (l' := #[.val (.int (-6 : Int32)), .val (.ref w_n10), .val (.int (11 : Int32)), .val (.int ((0 : Int32) + (1 : Int32))), .val (.ref w_OK)]) rfl ?_
    show Steps p.tables e below (T4.setTop (mkF m 37 #[.val (.int (-6 : Int32)), .val (.ref w_n10), .val (.int (11 : Int32)), .val (.int ((0 : Int32) + (1 : Int32))), .val (.ref w_OK)] [])) _
    rw [show ((0 : Int32) + (1 : Int32)) = (1 : Int32) from by decide]
    show Steps p.tables e below (T4.setTop (mkF m 37 #[.val (.int (-6 : Int32)), .val (.ref w_n10), .val (.int (11 : Int32)), .val (.int (1 : Int32)), .val (.ref w_OK)] [])) _
    refine XS.goto X4.here hx rfl (pc0 := 37) (pc' := 9) rfl (hb hby d2_37) (by decide) (by decide) ?_
    show Steps p.tables e below (T4.setTop (mkF m 9 #[.val (.int (-6 : Int32)), .val (.ref w_n10), .val (.int (11 : Int32)), .val (.int (1 : Int32)), .val (.ref w_OK)] [])) _
    refine XS.iloadN X4.here hx rfl (hb hby d2_9) rfl ?_
    show Steps p.tables e below (T4.setTop (mkF m 10 #[.val (.int (-6 : Int32)), .val (.ref w_n10), .val (.int (11 : Int32)), .val (.int (1 : Int32)), .val (.ref w_OK)] [(.int (1 : Int32))])) _
    refine XS.iloadN X4.here hx rfl (hb hby d2_10) rfl ?_
    show Steps p.tables e below (T4.setTop (mkF m 11 #[.val (.int (-6 : Int32)), .val (.ref w_n10), .val (.int (11 : Int32)), .val (.int (1 : Int32)), .val (.ref w_OK)] [(.int (11 : Int32)), (.int (1 : Int32))])) _
    refine XS.icmpNo X4.here hx rfl (hb hby d2_11) rfl (tlt ((by decide) : (1 : Int32) < (11 : Int32))).2.1 ?_
    show Steps p.tables e below (T4.setTop (mkF m 14 #[.val (.int (-6 : Int32)), .val (.ref w_n10), .val (.int (11 : Int32)), .val (.int (1 : Int32)), .val (.ref w_OK)] [])) _
    refine XS.aloadN X4.here hx rfl (hb hby d2_14) rfl rfl ?_
    show Steps p.tables e below (T4.setTop (mkF m 15 #[.val (.int (-6 : Int32)), .val (.ref w_n10), .val (.int (11 : Int32)), .val (.int (1 : Int32)), .val (.ref w_OK)] [(.ref w_n10)])) _
    refine XS.iloadN X4.here hx rfl (hb hby d2_15) rfl ?_
    show Steps p.tables e below (T4.setTop (mkF m 16 #[.val (.int (-6 : Int32)), .val (.ref w_n10), .val (.int (11 : Int32)), .val (.int (1 : Int32)), .val (.ref w_OK)] [(.int (1 : Int32)), (.ref w_n10)])) _
    refine X4.aaload hx (j := (1 : Int32)) (v := (.ref w_n1)) (by rw [e4]; exact Ar5.1) (State.isArrayOf_alike hZ.alike Ar5.2.1) rfl Ar5.2.2 hin5 hat5 (g := (mkF m 16 #[.val (.int (-6 : Int32)), .val (.ref w_n10), .val (.int (11 : Int32)), .val (.int (1 : Int32)), .val (.ref w_OK)] [(.int (1 : Int32)), (.ref w_n10)])) rfl rfl (hb hby d2_16) _ ?_
    show Steps p.tables e below (T4.setTop (mkF m 17 #[.val (.int (-6 : Int32)), .val (.ref w_n10), .val (.int (11 : Int32)), .val (.int (1 : Int32)), .val (.ref w_OK)] [(.ref w_n1)])) _
    refine XS.astore X4.here hx rfl (hb hby d2_17) rfl rfl (l' := #[.val (.int (-6 : Int32)), .val (.ref w_n10), .val (.int (11 : Int32)), .val (.int (1 : Int32)), .val (.ref w_n1)]) rfl ?_
    show Steps p.tables e below (T4.setTop (mkF m 19 #[.val (.int (-6 : Int32)), .val (.ref w_n10), .val (.int (11 : Int32)), .val (.int (1 : Int32)), .val (.ref w_n1)] [])) _
    refine XS.aload X4.here hx rfl (hb hby d2_19) rfl rfl ?_
    show Steps p.tables e below (T4.setTop (mkF m 21 #[.val (.int (-6 : Int32)), .val (.ref w_n10), .val (.int (11 : Int32)), .val (.int (1 : Int32)), .val (.ref w_n1)] [(.ref w_n1)])) _
    refine st6 _ ?_
    show Steps p.tables e below (T6.setTop (mkF m 24 #[.val (.int (-6 : Int32)), .val (.ref w_n10), .val (.int (11 : Int32)), .val (.int (1 : Int32)), .val (.ref w_n1)] [(.int (-2 : Int32))])) _
    refine XS.iloadN X6.here hx rfl (hb hby d2_24) rfl ?_
    show Steps p.tables e below (T6.setTop (mkF m 25 #[.val (.int (-6 : Int32)), .val (.ref w_n10), .val (.int (11 : Int32)), .val (.int (1 : Int32)), .val (.ref w_n1)] [(.int (-6 : Int32)), (.int (-2 : Int32))])) _
    refine XS.icmpYes X6.here hx rfl (pc0 := 25) (pc' := 34) rfl (hb hby d2_25) rfl (feq ((by decide) : ¬ ((-2 : Int32) = (-6 : Int32)))).2 (by decide) (by decide) ?_
    show Steps p.tables e below (T6.setTop (mkF m 34 #[.val (.int (-6 : Int32)), .val (.ref w_n10), .val (.int (11 : Int32)), .val (.int (1 : Int32)), .val (.ref w_n1)] [])) _
    refine XS.iinc X6.here hx rfl (hb hby d2_34) rfl (l' := #[.val (.int (-6 : Int32)), .val (.ref w_n10), .val (.int (11 : Int32)), .val (.int ((1 : Int32) + (1 : Int32))), .val (.ref w_n1)]) rfl ?_
    show Steps p.tables e below (T6.setTop (mkF m 37 #[.val (.int (-6 : Int32)), .val (.ref w_n10), .val (.int (11 : Int32)), .val (.int ((1 : Int32) + (1 : Int32))), .val (.ref w_n1)] [])) _
    rw [show ((1 : Int32) + (1 : Int32)) = (2 : Int32) from by decide]
    show Steps p.tables e below (T6.setTop (mkF m 37 #[.val (.int (-6 : Int32)), .val (.ref w_n10), .val (.int (11 : Int32)), .val (.int (2 : Int32)), .val (.ref w_n1)] [])) _
    refine XS.goto X6.here hx rfl (pc0 := 37) (pc' := 9) rfl (hb hby d2_37) (by decide) (by decide) ?_
    show Steps p.tables e below (T6.setTop (mkF m 9 #[.val (.int (-6 : Int32)), .val (.ref w_n10), .val (.int (11 : Int32)), .val (.int (2 : Int32)), .val (.ref w_n1)] [])) _
    refine XS.iloadN X6.here hx rfl (hb hby d2_9) rfl ?_
    show Steps p.tables e below (T6.setTop (mkF m 10 #[.val (.int (-6 : Int32)), .val (.ref w_n10), .val (.int (11 : Int32)), .val (.int (2 : Int32)), .val (.ref w_n1)] [(.int (2 : Int32))])) _
    refine XS.iloadN X6.here hx rfl (hb hby d2_10) rfl ?_
    show Steps p.tables e below (T6.setTop (mkF m 11 #[.val (.int (-6 : Int32)), .val (.ref w_n10), .val (.int (11 : Int32)), .val (.int (2 : Int32)), .val (.ref w_n1)] [(.int (11 : Int32)), (.int (2 : Int32))])) _
    refine XS.icmpNo X6.here hx rfl (hb hby d2_11) rfl (tlt ((by decide) : (2 : Int32) < (11 : Int32))).2.1 ?_
    show Steps p.tables e below (T6.setTop (mkF m 14 #[.val (.int (-6 : Int32)), .val (.ref w_n10), .val (.int (11 : Int32)), .val (.int (2 : Int32)), .val (.ref w_n1)] [])) _
    refine XS.aloadN X6.here hx rfl (hb hby d2_14) rfl rfl ?_
    show Steps p.tables e below (T6.setTop (mkF m 15 #[.val (.int (-6 : Int32)), .val (.ref w_n10), .val (.int (11 : Int32)), .val (.int (2 : Int32)), .val (.ref w_n1)] [(.ref w_n10)])) _
    refine XS.iloadN X6.here hx rfl (hb hby d2_15) rfl ?_
    show Steps p.tables e below (T6.setTop (mkF m 16 #[.val (.int (-6 : Int32)), .val (.ref w_n10), .val (.int (11 : Int32)), .val (.int (2 : Int32)), .val (.ref w_n1)] [(.int (2 : Int32)), (.ref w_n10)])) _
    refine X6.aaload hx (j := (2 : Int32)) (v := (.ref w_n2)) (by rw [e6]; exact Ar7.1) (State.isArrayOf_alike hZ.alike Ar7.2.1) rfl Ar7.2.2 hin7 hat7 (g := (mkF m 16 #[.val (.int (-6 : Int32)), .val (.ref w_n10), .val (.int (11 : Int32)), .val (.int (2 : Int32)), .val (.ref w_n1)] [(.int (2 : Int32)), (.ref w_n10)])) rfl rfl (hb hby d2_16) _ ?_
    show Steps p.tables e below (T6.setTop (mkF m 17 #[.val (.int (-6 : Int32)), .val (.ref w_n10), .val (.int (11 : Int32)), .val (.int (2 : Int32)), .val (.ref w_n1)] [(.ref w_n2)])) _
    refine XS.astore X6.here hx rfl (hb hby d2_17) rfl rfl (l' := #[.val (.int (-6 : Int32)), .val (.ref w_n10), .val (.int (11 : Int32)), .val (.int (2 : Int32)), .val (.ref w_n2)]) rfl ?_
    show Steps p.tables e below (T6.setTop (mkF m 19 #[.val (.int (-6 : Int32)), .val (.ref w_n10), .val (.int (11 : Int32)), .val (.int (2 : Int32)), .val (.ref w_n2)] [])) _
    refine XS.aload X6.here hx rfl (hb hby d2_19) rfl rfl ?_
    show Steps p.tables e below (T6.setTop (mkF m 21 #[.val (.int (-6 : Int32)), .val (.ref w_n10), .val (.int (11 : Int32)), .val (.int (2 : Int32)), .val (.ref w_n2)] [(.ref w_n2)])) _
    refine st8 _ ?_
    show Steps p.tables e below (T8.setTop (mkF m 24 #[.val (.int (-6 : Int32)), .val (.ref w_n10), .val (.int (11 : Int32)), .val (.int (2 : Int32)), .val (.ref w_n2)] [(.int (-5 : Int32))])) _
    refine XS.iloadN X8.here hx rfl (hb hby d2_24) rfl ?_
    show Steps p.tables e below (T8.setTop (mkF m 25 #[.val (.int (-6 : Int32)), .val (.ref w_n10), .val (.int (11 : Int32)), .val (.int (2 : Int32)), .val (.ref w_n2)] [(.int (-6 : Int32)), (.int (-5 : Int32))])) _
    refine XS.icmpYes X8.here hx rfl (pc0 := 25) (pc' := 34) rfl (hb hby d2_25) rfl (feq ((by decide) : ¬ ((-5 : Int32) = (-6 : Int32)))).2 (by decide) (by decide) ?_
    show Steps p.tables e below (T8.setTop (mkF m 34 #[.val (.int (-6 : Int32)), .val (.ref w_n10), .val (.int (11 : Int32)), .val (.int (2 : Int32)), .val (.ref w_n2)] [])) _
    refine XS.iinc X8.here hx rfl (hb hby d2_34) rfl (l' := #[.val (.int (-6 : Int32)), .val (.ref w_n10), .val (.int (11 : Int32)), .val (.int ((2 : Int32) + (1 : Int32))), .val (.ref w_n2)]) rfl ?_
    show Steps p.tables e below (T8.setTop (mkF m 37 #[.val (.int (-6 : Int32)), .val (.ref w_n10), .val (.int (11 : Int32)), .val (.int ((2 : Int32) + (1 : Int32))), .val (.ref w_n2)] [])) _
    rw [show ((2 : Int32) + (1 : Int32)) = (3 : Int32) from by decide]
    show Steps p.tables e below (T8.setTop (mkF m 37 #[.val (.int (-6 : Int32)), .val (.ref w_n10), .val (.int (11 : Int32)), .val (.int (3 : Int32)), .val (.ref w_n2)] [])) _
    refine XS.goto X8.here hx rfl (pc0 := 37) (pc' := 9) rfl (hb hby d2_37) (by decide) (by decide) ?_
    show Steps p.tables e below (T8.setTop (mkF m 9 #[.val (.int (-6 : Int32)), .val (.ref w_n10), .val (.int (11 : Int32)), .val (.int (3 : Int32)), .val (.ref w_n2)] [])) _
    refine XS.iloadN X8.here hx rfl (hb hby d2_9) rfl ?_
    show Steps p.tables e below (T8.setTop (mkF m 10 #[.val (.int (-6 : Int32)), .val (.ref w_n10), .val (.int (11 : Int32)), .val (.int (3 : Int32)), .val (.ref w_n2)] [(.int (3 : Int32))])) _
    refine XS.iloadN X8.here hx rfl (hb hby d2_10) rfl ?_
    show Steps p.tables e below (T8.setTop (mkF m 11 #[.val (.int (-6 : Int32)), .val (.ref w_n10), .val (.int (11 : Int32)), .val (.int (3 : Int32)), .val (.ref w_n2)] [(.int (11 : Int32)), (.int (3 : Int32))])) _
    refine XS.icmpNo X8.here hx rfl (hb hby d2_11) rfl (tlt ((by decide) : (3 : Int32) < (11 : Int32))).2.1 ?_
    show Steps p.tables e below (T8.setTop (mkF m 14 #[.val (.int (-6 : Int32)), .val (.ref w_n10), .val (.int (11 : Int32)), .val (.int (3 : Int32)), .val (.ref w_n2)] [])) _
    refine XS.aloadN X8.here hx rfl (hb hby d2_14) rfl rfl ?_
    show Steps p.tables e below (T8.setTop (mkF m 15 #[.val (.int (-6 : Int32)), .val (.ref w_n10), .val (.int (11 : Int32)), .val (.int (3 : Int32)), .val (.ref w_n2)] [(.ref w_n10)])) _
    refine XS.iloadN X8.here hx rfl (hb hby d2_15) rfl ?_
    show Steps p.tables e below (T8.setTop (mkF m 16 #[.val (.int (-6 : Int32)), .val (.ref w_n10), .val (.int (11 : Int32)), .val (.int (3 : Int32)), .val (.ref w_n2)] [(.int (3 : Int32)), (.ref w_n10)])) _
    refine X8.aaload hx (j := (3 : Int32)) (v := (.ref w_n5)) (by rw [e8]; exact Ar9.1) (State.isArrayOf_alike hZ.alike Ar9.2.1) rfl Ar9.2.2 hin9 hat9 (g := (mkF m 16 #[.val (.int (-6 : Int32)), .val (.ref w_n10), .val (.int (11 : Int32)), .val (.int (3 : Int32)), .val (.ref w_n2)] [(.int (3 : Int32)), (.ref w_n10)])) rfl rfl (hb hby d2_16) _ ?_
    show Steps p.tables e below (T8.setTop (mkF m 17 #[.val (.int (-6 : Int32)), .val (.ref w_n10), .val (.int (11 : Int32)), .val (.int (3 : Int32)), .val (.ref w_n2)] [(.ref w_n5)])) _
    refine XS.astore X8.here hx rfl (hb hby d2_17) rfl rfl (l' := #[.val (.int (-6 : Int32)), .val (.ref w_n10), .val (.int (11 : Int32)), .val (.int (3 : Int32)), .val (.ref w_n5)]) rfl ?_
    show Steps p.tables e below (T8.setTop (mkF m 19 #[.val (.int (-6 : Int32)), .val (.ref w_n10), .val (.int (11 : Int32)), .val (.int (3 : Int32)), .val (.ref w_n5)] [])) _
    refine XS.aload X8.here hx rfl (hb hby d2_19) rfl rfl ?_
    show Steps p.tables e below (T8.setTop (mkF m 21 #[.val (.int (-6 : Int32)), .val (.ref w_n10), .val (.int (11 : Int32)), .val (.int (3 : Int32)), .val (.ref w_n5)] [(.ref w_n5)])) _
    refine st10 _ ?_
    show Steps p.tables e below (T10.setTop (mkF m 24 #[.val (.int (-6 : Int32)), .val (.ref w_n10), .val (.int (11 : Int32)), .val (.int (3 : Int32)), .val (.ref w_n5)] [(.int (-6 : Int32))])) _
    refine XS.iloadN X10.here hx rfl (hb hby d2_24) rfl ?_
    show Steps p.tables e below (T10.setTop (mkF m 25 #[.val (.int (-6 : Int32)), .val (.ref w_n10), .val (.int (11 : Int32)), .val (.int (3 : Int32)), .val (.ref w_n5)] [(.int (-6 : Int32)), (.int (-6 : Int32))])) _
    refine XS.icmpNo X10.here hx rfl (hb hby d2_25) rfl (teq ((by decide) : (-6 : Int32) = (-6 : Int32))).2 ?_
    show Steps p.tables e below (T10.setTop (mkF m 28 #[.val (.int (-6 : Int32)), .val (.ref w_n10), .val (.int (11 : Int32)), .val (.int (3 : Int32)), .val (.ref w_n5)] [])) _
    refine XS.aload X10.here hx rfl (hb hby d2_28) rfl rfl ?_
    show Steps p.tables e below (T10.setTop (mkF m 30 #[.val (.int (-6 : Int32)), .val (.ref w_n10), .val (.int (11 : Int32)), .val (.int (3 : Int32)), .val (.ref w_n5)] [(.ref w_n5)])) _
    refine st11 _ ?_
    show Steps p.tables e below (T11.setTop (mkF m 33 #[.val (.int (-6 : Int32)), .val (.ref w_n10), .val (.int (11 : Int32)), .val (.int (3 : Int32)), .val (.ref w_n5)] [(.ref b11_b1)])) _
    jvm_step X11.here [X11.here.top, hx, (hb hby d2_33), X11.method', Bd.returns, Value.isRef, FieldType.isReference]
    first | (intro acts; rw [hr _ acts rfl rfl rfl]) | rw [hr _ _ rfl rfl rfl]
    exact Steps.refl _
  · show QW (fun v h => ∃ b11_b1 : Addr, v = some (.ref b11_b1) ∧ Keep h0 h [] ∧ n0 ≤ b11_b1 ∧ h0.size ≤ b11_b1 ∧ Exa Z h b11_b1 "java/util/Optional" ∧ Fld Z h b11_b1 "java/util/Optional" "value" "Ljava/lang/Object;" (.ref w_n5)) n0 _ T11.heap _
    exact ⟨N11, ⟨b11_b1, rfl, K11, g_b11_b1, sz_b11_b1, fp11_0, fp11_1⟩⟩
theorem d8_28 : decode method_2_code 28 = .ok (.iload_n 0, 1) := by decide +kernel
theorem d8_29 : decode method_2_code 29 = .ok (.bipush (-6), 2) := by decide +kernel
theorem d8_31 : decode method_2_code 31 = .ok (.if_icmp .ne 7, 3) := by decide +kernel
theorem d8_34 : decode method_2_code 34 = .ok (.getstatic 19, 3) := by decide +kernel
theorem d8_37 : decode method_2_code 37 = .ok (.areturn, 1) := by decide +kernel
set_option maxRecDepth 65536 in
set_option maxHeartbeats 40000000 in
theorem rm_ex3 (l : Launch) (Z : State) (a0 : Array Value) (hw : ∀ d ∈ tables_1, d.before a0 Z = true) (ws : List Jvm.Cond) {w_n5 : Addr} {w_n10 : Addr} {w_OK : Addr} {w_n1 : Addr} {w_n2 : Addr} {w_n4 : Addr} {w_n9 : Addr} {w_n6 : Addr} {w_n0 : Addr} {w_n7 : Addr} {w_n8 : Addr} {w_n3 : Addr} {w_n11 : Addr} {k_n10 : ClassId} (W : Wd Z w_n5 w_n10 w_OK w_n1 w_n2 w_n4 w_n9 w_n6 w_n0 w_n7 w_n8 w_n3 w_n11 k_n10) (h0 : Heap) (n0 : Nat) (O0 : Old Z n0 h0) :
    MetFree l (⟨"com/example/usher/usher/wire/ErrorCodeForCodePinLaw", "expected", "(I)Lcom/example/usher/usher/wire/ErrorCode;"⟩ : MethodName) (head1 (Jvm.Cond.code (⟨"com/example/usher/usher/wire/ErrorCodeForCodePinLaw", "expected", "(I)Lcom/example/usher/usher/wire/ErrorCode;"⟩ : MethodName) method_2_code 1 (some (.object "com/example/usher/usher/wire/ErrorCode")) :: ws) ({ frames := 0, cells := 0, slots := 0, locals := 0 } : Room)) (fun a U => a = #[(.int (-6 : Int32))] ∧ Z.Warmed39 U.vm ∧ U.heap = h0) (fun _ _ _ _ _ => True) (fun _ U o U' => ∃ v L, o = .returned v ∧ QP (some (.ref w_n5)) h0 n0 v U'.heap L ∧ FrameEnd U o U' L ({ frames := 0, cells := 0, slots := 0, locals := 0 } : Room).cells ({ frames := 0, cells := 0, slots := 0, locals := 0 } : Room).slots) := by
  have W' := W; obtain ⟨S_n5, E_n5, S_n10, S_OK, E_OK, S_n1, E_n1, S_n2, E_n2, S_n4, E_n4, S_n9, E_n9, S_n6, E_n6, S_n0, E_n0, S_n7, E_n7, S_n8, E_n8, S_n3, E_n3, S_n11, E_n11, F_OK_code, F_n5_code, F_n1_code, F_n2_code, F_n4_code, F_n9_code, F_n6_code, F_n0_code, F_n7_code, F_n8_code, F_n3_code, F_n11_value, V_n10⟩ := W'
  refine MetFree.of_bodySF (plainFor_of_name pn_8) hisR ?_
  intro p e s m args below meth c s₁ Bd hml0 hP hK
  obtain ⟨rfl, hZ, hh⟩ := hP
  have hx := Bd.exec
  have hby := Bd.bytes
  have hml : c.maxLocals = 1 := hml0
  have hown : s.vm.findClass "com/example/usher/usher/wire/ErrorCodeForCodePinLaw" = some m.cls := findClass_of_methodNamed Bd.named
  have hnm := (name_of_methodNamed Bd.named Bd.method).1
  have X0 : Stand p l e ({ frames := 0, cells := 0, slots := 0, locals := 0 } : Room) s m #[(.int (-6 : Int32))] below meth c s₁ [] 0 0 := Stand.of_body Bd
  have e0 : s₁.heap = h0 := by rw [← hh, Bd.state]; rfl
  have N0 := Fr.nil n0
  have pre0 : ∀ t, Steps p.tables e below (s₁.setTop (mkF m 0 #[.val (.int (-6 : Int32))] [])) t → Steps p.tables e below (s₁.setTop (entryFrame m #[(.int (-6 : Int32))] 1)) t := fun t k => castTop (ef_8_5 m (-6 : Int32)) k
  obtain ⟨T1, X1, e1, st1⟩ := getS2 X0 hx hZ hown (host := "") (Or.inl (hw _ (List.mem_of_getElem? (i := 5) rfl))) Via.refl e0 (S_n5.ext O0.2) (g := (mkF m 34 #[.val (.int (-6 : Int32))] [])) rfl (hb hby d8_34)
  obtain ⟨fs, hr, hrun, hended, hW, hsame⟩ := X1.leave (v := some (.ref w_n5)) (fun h => by rw [Bd.returns] at h; cases h)
  refine ⟨_, _, pre0 _ ?_, hrun, hended, _, _, rfl, ?_, ⟨_, rfl⟩, hW, hsame.mono (by decide) (by decide)⟩
  · show Steps p.tables e below (s₁.setTop (mkF m 0 #[.val (.int (-6 : Int32))] [])) _
    refine XS.iloadN X0.here hx rfl (hb hby d8_0) rfl ?_
    show Steps p.tables e below (s₁.setTop (mkF m 1 #[.val (.int (-6 : Int32))] [(.int (-6 : Int32))])) _
    refine XS.ifYes X0.here hx rfl (pc0 := 1) (pc' := 8) rfl (hb hby d8_1) rfl ((if0 _ _).trans (feq ((by decide) : ¬ ((-6 : Int32) = (0 : Int32)))).2) (by decide) (by decide) ?_
    show Steps p.tables e below (s₁.setTop (mkF m 8 #[.val (.int (-6 : Int32))] [])) _
    refine XS.iloadN X0.here hx rfl (hb hby d8_8) rfl ?_
    show Steps p.tables e below (s₁.setTop (mkF m 9 #[.val (.int (-6 : Int32))] [(.int (-6 : Int32))])) _
    refine XS.bipush X0.here hx rfl (hb hby d8_9) ?_
    show Steps p.tables e below (s₁.setTop (mkF m 11 #[.val (.int (-6 : Int32))] [(.int (-2 : Int32)), (.int (-6 : Int32))])) _
    refine XS.icmpYes X0.here hx rfl (pc0 := 11) (pc' := 18) rfl (hb hby d8_11) rfl (feq ((by decide) : ¬ ((-6 : Int32) = (-2 : Int32)))).2 (by decide) (by decide) ?_
    show Steps p.tables e below (s₁.setTop (mkF m 18 #[.val (.int (-6 : Int32))] [])) _
    refine XS.iloadN X0.here hx rfl (hb hby d8_18) rfl ?_
    show Steps p.tables e below (s₁.setTop (mkF m 19 #[.val (.int (-6 : Int32))] [(.int (-6 : Int32))])) _
    refine XS.bipush X0.here hx rfl (hb hby d8_19) ?_
    show Steps p.tables e below (s₁.setTop (mkF m 21 #[.val (.int (-6 : Int32))] [(.int (-5 : Int32)), (.int (-6 : Int32))])) _
    refine XS.icmpYes X0.here hx rfl (pc0 := 21) (pc' := 28) rfl (hb hby d8_21) rfl (feq ((by decide) : ¬ ((-6 : Int32) = (-5 : Int32)))).2 (by decide) (by decide) ?_
    show Steps p.tables e below (s₁.setTop (mkF m 28 #[.val (.int (-6 : Int32))] [])) _
    refine XS.iloadN X0.here hx rfl (hb hby d8_28) rfl ?_
    show Steps p.tables e below (s₁.setTop (mkF m 29 #[.val (.int (-6 : Int32))] [(.int (-6 : Int32))])) _
    refine XS.bipush X0.here hx rfl (hb hby d8_29) ?_
    show Steps p.tables e below (s₁.setTop (mkF m 31 #[.val (.int (-6 : Int32))] [(.int (-6 : Int32)), (.int (-6 : Int32))])) _
    refine XS.icmpNo X0.here hx rfl (hb hby d8_31) rfl (teq ((by decide) : (-6 : Int32) = (-6 : Int32))).2 ?_
    show Steps p.tables e below (s₁.setTop (mkF m 34 #[.val (.int (-6 : Int32))] [])) _
    refine st1 _ ?_
    show Steps p.tables e below (T1.setTop (mkF m 37 #[.val (.int (-6 : Int32))] [(.ref w_n5)])) _
    jvm_step X1.here [X1.here.top, hx, (hb hby d8_37), X1.method', Bd.returns, Value.isRef, FieldType.isReference]
    first | (intro acts; rw [hr _ acts rfl rfl rfl]) | rw [hr _ _ rfl rfl rfl]
    exact Steps.refl _
  · show QP (some (.ref w_n5)) h0 n0 _ T1.heap _
    rw [e1]
    exact ⟨rfl, N0, rfl⟩
theorem d1_26 : decode method_3_code 26 = .ok (.iload_n 0, 1) := by decide +kernel
theorem d1_27 : decode method_3_code 27 = .ok (.iconst 3, 1) := by decide +kernel
theorem d1_28 : decode method_3_code 28 = .ok (.if_icmp .ne 7, 3) := by decide +kernel
theorem d1_31 : decode method_3_code 31 = .ok (.getstatic 19, 3) := by decide +kernel
theorem d1_34 : decode method_3_code 34 = .ok (.areturn, 1) := by decide +kernel
set_option maxRecDepth 65536 in
set_option maxHeartbeats 40000000 in
theorem rm_pk3 (l : Launch) (Z : State) (a0 : Array Value) (hw : ∀ d ∈ tables_1, d.before a0 Z = true) (ws : List Jvm.Cond) {w_n5 : Addr} {w_n10 : Addr} {w_OK : Addr} {w_n1 : Addr} {w_n2 : Addr} {w_n4 : Addr} {w_n9 : Addr} {w_n6 : Addr} {w_n0 : Addr} {w_n7 : Addr} {w_n8 : Addr} {w_n3 : Addr} {w_n11 : Addr} {k_n10 : ClassId} (W : Wd Z w_n5 w_n10 w_OK w_n1 w_n2 w_n4 w_n9 w_n6 w_n0 w_n7 w_n8 w_n3 w_n11 k_n10) (h0 : Heap) (n0 : Nat) (O0 : Old Z n0 h0) :
    MetFree l (⟨"com/example/usher/usher/wire/ErrorCodeForCodePinLaw", "pick", "(I)Lcom/example/usher/usher/wire/ErrorCode;"⟩ : MethodName) (head1 (Jvm.Cond.code (⟨"com/example/usher/usher/wire/ErrorCodeForCodePinLaw", "pick", "(I)Lcom/example/usher/usher/wire/ErrorCode;"⟩ : MethodName) method_3_code 1 (some (.object "com/example/usher/usher/wire/ErrorCode")) :: ws) ({ frames := 0, cells := 0, slots := 0, locals := 0 } : Room)) (fun a U => a = #[(.int (3 : Int32))] ∧ Z.Warmed39 U.vm ∧ U.heap = h0) (fun _ _ _ _ _ => True) (fun _ U o U' => ∃ v L, o = .returned v ∧ QP (some (.ref w_n5)) h0 n0 v U'.heap L ∧ FrameEnd U o U' L ({ frames := 0, cells := 0, slots := 0, locals := 0 } : Room).cells ({ frames := 0, cells := 0, slots := 0, locals := 0 } : Room).slots) := by
  have W' := W; obtain ⟨S_n5, E_n5, S_n10, S_OK, E_OK, S_n1, E_n1, S_n2, E_n2, S_n4, E_n4, S_n9, E_n9, S_n6, E_n6, S_n0, E_n0, S_n7, E_n7, S_n8, E_n8, S_n3, E_n3, S_n11, E_n11, F_OK_code, F_n5_code, F_n1_code, F_n2_code, F_n4_code, F_n9_code, F_n6_code, F_n0_code, F_n7_code, F_n8_code, F_n3_code, F_n11_value, V_n10⟩ := W'
  refine MetFree.of_bodySF (plainFor_of_name pn_1) hisR ?_
  intro p e s m args below meth c s₁ Bd hml0 hP hK
  obtain ⟨rfl, hZ, hh⟩ := hP
  have hx := Bd.exec
  have hby := Bd.bytes
  have hml : c.maxLocals = 1 := hml0
  have hown : s.vm.findClass "com/example/usher/usher/wire/ErrorCodeForCodePinLaw" = some m.cls := findClass_of_methodNamed Bd.named
  have hnm := (name_of_methodNamed Bd.named Bd.method).1
  have X0 : Stand p l e ({ frames := 0, cells := 0, slots := 0, locals := 0 } : Room) s m #[(.int (3 : Int32))] below meth c s₁ [] 0 0 := Stand.of_body Bd
  have e0 : s₁.heap = h0 := by rw [← hh, Bd.state]; rfl
  have N0 := Fr.nil n0
  have pre0 : ∀ t, Steps p.tables e below (s₁.setTop (mkF m 0 #[.val (.int (3 : Int32))] [])) t → Steps p.tables e below (s₁.setTop (entryFrame m #[(.int (3 : Int32))] 1)) t := fun t k => castTop (ef_1_6 m (3 : Int32)) k
  obtain ⟨T1, X1, e1, st1⟩ := getS2 X0 hx hZ hown (host := "") (Or.inl (hw _ (List.mem_of_getElem? (i := 5) rfl))) Via.refl e0 (S_n5.ext O0.2) (g := (mkF m 31 #[.val (.int (3 : Int32))] [])) rfl (hb hby d1_31)
  obtain ⟨fs, hr, hrun, hended, hW, hsame⟩ := X1.leave (v := some (.ref w_n5)) (fun h => by rw [Bd.returns] at h; cases h)
  refine ⟨_, _, pre0 _ ?_, hrun, hended, _, _, rfl, ?_, ⟨_, rfl⟩, hW, hsame.mono (by decide) (by decide)⟩
  · show Steps p.tables e below (s₁.setTop (mkF m 0 #[.val (.int (3 : Int32))] [])) _
    refine XS.iloadN X0.here hx rfl (hb hby d1_0) rfl ?_
    show Steps p.tables e below (s₁.setTop (mkF m 1 #[.val (.int (3 : Int32))] [(.int (3 : Int32))])) _
    refine XS.ifYes X0.here hx rfl (pc0 := 1) (pc' := 8) rfl (hb hby d1_1) rfl ((if0 _ _).trans (feq ((by decide) : ¬ ((3 : Int32) = (0 : Int32)))).2) (by decide) (by decide) ?_
    show Steps p.tables e below (s₁.setTop (mkF m 8 #[.val (.int (3 : Int32))] [])) _
    refine XS.iloadN X0.here hx rfl (hb hby d1_8) rfl ?_
    show Steps p.tables e below (s₁.setTop (mkF m 9 #[.val (.int (3 : Int32))] [(.int (3 : Int32))])) _
    refine XS.iconst X0.here hx rfl (hb hby d1_9) ?_
    show Steps p.tables e below (s₁.setTop (mkF m 10 #[.val (.int (3 : Int32))] [(.int (1 : Int32)), (.int (3 : Int32))])) _
    refine XS.icmpYes X0.here hx rfl (pc0 := 10) (pc' := 17) rfl (hb hby d1_10) rfl (feq ((by decide) : ¬ ((3 : Int32) = (1 : Int32)))).2 (by decide) (by decide) ?_
    show Steps p.tables e below (s₁.setTop (mkF m 17 #[.val (.int (3 : Int32))] [])) _
    refine XS.iloadN X0.here hx rfl (hb hby d1_17) rfl ?_
    show Steps p.tables e below (s₁.setTop (mkF m 18 #[.val (.int (3 : Int32))] [(.int (3 : Int32))])) _
    refine XS.iconst X0.here hx rfl (hb hby d1_18) ?_
    show Steps p.tables e below (s₁.setTop (mkF m 19 #[.val (.int (3 : Int32))] [(.int (2 : Int32)), (.int (3 : Int32))])) _
    refine XS.icmpYes X0.here hx rfl (pc0 := 19) (pc' := 26) rfl (hb hby d1_19) rfl (feq ((by decide) : ¬ ((3 : Int32) = (2 : Int32)))).2 (by decide) (by decide) ?_
    show Steps p.tables e below (s₁.setTop (mkF m 26 #[.val (.int (3 : Int32))] [])) _
    refine XS.iloadN X0.here hx rfl (hb hby d1_26) rfl ?_
    show Steps p.tables e below (s₁.setTop (mkF m 27 #[.val (.int (3 : Int32))] [(.int (3 : Int32))])) _
    refine XS.iconst X0.here hx rfl (hb hby d1_27) ?_
    show Steps p.tables e below (s₁.setTop (mkF m 28 #[.val (.int (3 : Int32))] [(.int (3 : Int32)), (.int (3 : Int32))])) _
    refine XS.icmpNo X0.here hx rfl (hb hby d1_28) rfl (teq ((by decide) : (3 : Int32) = (3 : Int32))).2 ?_
    show Steps p.tables e below (s₁.setTop (mkF m 31 #[.val (.int (3 : Int32))] [])) _
    refine st1 _ ?_
    show Steps p.tables e below (T1.setTop (mkF m 34 #[.val (.int (3 : Int32))] [(.ref w_n5)])) _
    jvm_step X1.here [X1.here.top, hx, (hb hby d1_34), X1.method', Bd.returns, Value.isRef, FieldType.isReference]
    first | (intro acts; rw [hr _ acts rfl rfl rfl]) | rw [hr _ _ rfl rfl rfl]
    exact Steps.refl _
  · show QP (some (.ref w_n5)) h0 n0 _ T1.heap _
    rw [e1]
    exact ⟨rfl, N0, rfl⟩
set_option maxRecDepth 65536 in
set_option maxHeartbeats 40000000 in
theorem rm_fc4 (l : Launch) (Z : State) (a0 : Array Value) (hw : ∀ d ∈ tables_1, d.before a0 Z = true) (ws : List Jvm.Cond) {w_n5 : Addr} {w_n10 : Addr} {w_OK : Addr} {w_n1 : Addr} {w_n2 : Addr} {w_n4 : Addr} {w_n9 : Addr} {w_n6 : Addr} {w_n0 : Addr} {w_n7 : Addr} {w_n8 : Addr} {w_n3 : Addr} {w_n11 : Addr} {k_n10 : ClassId} (W : Wd Z w_n5 w_n10 w_OK w_n1 w_n2 w_n4 w_n9 w_n6 w_n0 w_n7 w_n8 w_n3 w_n11 k_n10) (h0 : Heap) (n0 : Nat) (O0 : Old Z n0 h0) :
    MetFree l (⟨"com/example/usher/usher/wire/ErrorCode", "forCode", "(I)Ljava/util/Optional;"⟩ : MethodName) (head1 (Jvm.Cond.code (⟨"com/example/usher/usher/wire/ErrorCode", "forCode", "(I)Ljava/util/Optional;"⟩ : MethodName) prog_14_method_5_code 5 (some (.object "java/util/Optional")) :: ws) ({ frames := 3, cells := 1, slots := 1, locals := 38 } : Room)) (fun a U => a = #[(.int (-8 : Int32))] ∧ Z.Warmed39 U.vm ∧ U.heap = h0) (fun _ _ _ _ _ => True) (fun _ U o U' => ∃ v L, o = .returned v ∧ QW (fun v h => ∃ b13_b1 : Addr, v = some (.ref b13_b1) ∧ Keep h0 h [] ∧ n0 ≤ b13_b1 ∧ h0.size ≤ b13_b1 ∧ Exa Z h b13_b1 "java/util/Optional" ∧ Fld Z h b13_b1 "java/util/Optional" "value" "Ljava/lang/Object;" (.ref w_n4)) n0 v U'.heap L ∧ FrameEnd U o U' L ({ frames := 3, cells := 1, slots := 1, locals := 38 } : Room).cells ({ frames := 3, cells := 1, slots := 1, locals := 38 } : Room).slots) := by
  have W' := W; obtain ⟨S_n5, E_n5, S_n10, S_OK, E_OK, S_n1, E_n1, S_n2, E_n2, S_n4, E_n4, S_n9, E_n9, S_n6, E_n6, S_n0, E_n0, S_n7, E_n7, S_n8, E_n8, S_n3, E_n3, S_n11, E_n11, F_OK_code, F_n5_code, F_n1_code, F_n2_code, F_n4_code, F_n9_code, F_n6_code, F_n0_code, F_n7_code, F_n8_code, F_n3_code, F_n11_value, V_n10⟩ := W'
  refine MetFree.of_bodySF (plainFor_of_name pn_2) hisR ?_
  intro p e s m args below meth c s₁ Bd hml0 hP hK
  obtain ⟨rfl, hZ, hh⟩ := hP
  have hx := Bd.exec
  have hby := Bd.bytes
  have hml : c.maxLocals = 5 := hml0
  have hown : s.vm.findClass "com/example/usher/usher/wire/ErrorCode" = some m.cls := findClass_of_methodNamed Bd.named
  have hnm := (name_of_methodNamed Bd.named Bd.method).1
  have X0 : Stand p l e ({ frames := 3, cells := 1, slots := 1, locals := 38 } : Room) s m #[(.int (-8 : Int32))] below meth c s₁ [] 0 0 := Stand.of_body Bd
  have e0 : s₁.heap = h0 := by rw [← hh, Bd.state]; rfl
  have N0 := Fr.nil n0
  have pre0 : ∀ t, Steps p.tables e below (s₁.setTop (mkF m 0 #[.val (.int (-8 : Int32)), .unset, .unset, .unset, .unset] [])) t → Steps p.tables e below (s₁.setTop (entryFrame m #[(.int (-8 : Int32))] 5)) t := fun t k => castTop (ef_2_4 m (-8 : Int32)) k
  obtain ⟨T1, X1, e1, st1⟩ := getS2 X0 hx hZ hown (host := "") (Or.inl (hw _ (List.mem_of_getElem? (i := 11) rfl))) Via.refl e0 (S_n10.ext O0.2) (g := (mkF m 0 #[.val (.int (-8 : Int32)), .unset, .unset, .unset, .unset] [])) rfl (hb hby d2_0)
  obtain ⟨cl2, Ar2, qk2, Sz2, Nz2, Hs2, Gs2⟩ := id (V_n10.ext O0.2)
  obtain ⟨cl3, Ar3, qk3, Sz3, Nz3, Hs3, Gs3⟩ := id (V_n10.ext O0.2)
  have hin3 : ¬ ((0 : Int32) < 0 ∨ cl3.slots.size ≤ ((0 : Int32)).toNatClampNeg) := inb_of Sz3 ⟨by decide, by decide⟩
  have hat3 : cl3.slots[((0 : Int32)).toNatClampNeg]? = some (.ref w_OK) := Has.at Hs3 hin3 rfl
  obtain ⟨T4, X4, e4, st4⟩ := getF X1 hx hZ hown (host := "") (Or.inl (hw _ (List.mem_of_getElem? (i := 14) rfl))) Via.refl e1 (F_OK_code.ext O0.2) (g := (mkF m 21 #[.val (.int (-8 : Int32)), .val (.ref w_n10), .val (.int (11 : Int32)), .val (.int (0 : Int32)), .val (.ref w_OK)] [(.ref w_OK)])) rfl rfl (hb hby d2_21)
  obtain ⟨cl5, Ar5, qk5, Sz5, Nz5, Hs5, Gs5⟩ := id (V_n10.ext O0.2)
  have hin5 : ¬ ((1 : Int32) < 0 ∨ cl5.slots.size ≤ ((1 : Int32)).toNatClampNeg) := inb_of Sz5 ⟨by decide, by decide⟩
  have hat5 : cl5.slots[((1 : Int32)).toNatClampNeg]? = some (.ref w_n1) := Has.at Hs5 hin5 rfl
  obtain ⟨T6, X6, e6, st6⟩ := getF X4 hx hZ hown (host := "") (Or.inl (hw _ (List.mem_of_getElem? (i := 14) rfl))) Via.refl e4 (F_n1_code.ext O0.2) (g := (mkF m 21 #[.val (.int (-8 : Int32)), .val (.ref w_n10), .val (.int (11 : Int32)), .val (.int (1 : Int32)), .val (.ref w_n1)] [(.ref w_n1)])) rfl rfl (hb hby d2_21)
  obtain ⟨cl7, Ar7, qk7, Sz7, Nz7, Hs7, Gs7⟩ := id (V_n10.ext O0.2)
  have hin7 : ¬ ((2 : Int32) < 0 ∨ cl7.slots.size ≤ ((2 : Int32)).toNatClampNeg) := inb_of Sz7 ⟨by decide, by decide⟩
  have hat7 : cl7.slots[((2 : Int32)).toNatClampNeg]? = some (.ref w_n2) := Has.at Hs7 hin7 rfl
  obtain ⟨T8, X8, e8, st8⟩ := getF X6 hx hZ hown (host := "") (Or.inl (hw _ (List.mem_of_getElem? (i := 14) rfl))) Via.refl e6 (F_n2_code.ext O0.2) (g := (mkF m 21 #[.val (.int (-8 : Int32)), .val (.ref w_n10), .val (.int (11 : Int32)), .val (.int (2 : Int32)), .val (.ref w_n2)] [(.ref w_n2)])) rfl rfl (hb hby d2_21)
  obtain ⟨cl9, Ar9, qk9, Sz9, Nz9, Hs9, Gs9⟩ := id (V_n10.ext O0.2)
  have hin9 : ¬ ((3 : Int32) < 0 ∨ cl9.slots.size ≤ ((3 : Int32)).toNatClampNeg) := inb_of Sz9 ⟨by decide, by decide⟩
  have hat9 : cl9.slots[((3 : Int32)).toNatClampNeg]? = some (.ref w_n5) := Has.at Hs9 hin9 rfl
  obtain ⟨T10, X10, e10, st10⟩ := getF X8 hx hZ hown (host := "") (Or.inl (hw _ (List.mem_of_getElem? (i := 14) rfl))) Via.refl e8 (F_n5_code.ext O0.2) (g := (mkF m 21 #[.val (.int (-8 : Int32)), .val (.ref w_n10), .val (.int (11 : Int32)), .val (.int (3 : Int32)), .val (.ref w_n5)] [(.ref w_n5)])) rfl rfl (hb hby d2_21)
  obtain ⟨cl11, Ar11, qk11, Sz11, Nz11, Hs11, Gs11⟩ := id (V_n10.ext O0.2)
  have hin11 : ¬ ((4 : Int32) < 0 ∨ cl11.slots.size ≤ ((4 : Int32)).toNatClampNeg) := inb_of Sz11 ⟨by decide, by decide⟩
  have hat11 : cl11.slots[((4 : Int32)).toNatClampNeg]? = some (.ref w_n4) := Has.at Hs11 hin11 rfl
  obtain ⟨T12, X12, e12, st12⟩ := getF X10 hx hZ hown (host := "") (Or.inl (hw _ (List.mem_of_getElem? (i := 14) rfl))) Via.refl e10 (F_n4_code.ext O0.2) (g := (mkF m 21 #[.val (.int (-8 : Int32)), .val (.ref w_n10), .val (.int (11 : Int32)), .val (.int (4 : Int32)), .val (.ref w_n4)] [(.ref w_n4)])) rfl rfl (hb hby d2_21)
  obtain ⟨_, _, ⟨T13, L13, k13, n13⟩, -, X13, ⟨Lc13, hQ13, l13, y13, z13⟩, st13⟩ := Jvm.LawKit.callS X12 hx (y := (⟨"java/util/Optional", "of", "(Ljava/lang/Object;)Ljava/util/Optional;"⟩ : MethodName)) hown (mvT hZ (hw _ (List.mem_of_getElem? (i := 16) rfl))) (mvT hZ (hw _ (List.mem_of_getElem? (i := 17) rfl))) (mvT hZ (hw _ (List.mem_of_getElem? (i := 18) rfl))) (mvT hZ (hw _ (List.mem_of_getElem? (i := 19) rfl))) (by decide) (backOf (W := 0) (rm_of l Z a0 hw [] W w_n4 h0 n0 O0 ) hZ (hw _ (List.mem_of_getElem? (i := 19) rfl)) (hw _ (List.mem_of_getElem? (i := 18) rfl)) (by decide) (by decide)) (g := (mkF m 30 #[.val (.int (-8 : Int32)), .val (.ref w_n10), .val (.int (11 : Int32)), .val (.int (4 : Int32)), .val (.ref w_n4)] [(.ref w_n4)])) rfl (by rw [hml]; rfl) (argsL := [(.ref w_n4)]) (rest := []) (lenOf pd_2 rfl) rfl (by show 2 * 0 + _ ≤ _; exact Nat.le_of_eq rfl) (hb hby d2_30) (fun _ _ => ⟨rfl, e12, (by decide : 0 + 1 ≤ _), (by decide : 0 + 1 ≤ _)⟩)
  dsimp only [Pt.U, Pt.locs, Pt.cells, Pt.slots] at X13 l13 y13 z13 st13 hQ13
  subst l13 y13 z13
  obtain ⟨N13q, hP13⟩ := hQ13
  have N13 := Fr.app N0 N13q
  obtain ⟨b13_b1, rfl, Kp13, g_b13_b1, si_b13_b1, fp13_0, fp13_1⟩ := hP13
  have O13 := O0.keep Kp13 all0
  have sz_b13_b1 : h0.size ≤ b13_b1 := Nat.le_trans ((Keep.refl h0 [])).1 si_b13_b1
  have K13 : Keep h0 T13.heap [] := (Keep.refl h0 []).trans Kp13 all0
  obtain ⟨fs, hr, hrun, hended, hW, hsame⟩ := X13.leave (v := some (.ref b13_b1)) (fun h => by rw [Bd.returns] at h; cases h)
  refine ⟨_, _, pre0 _ ?_, hrun, hended, _, _, rfl, ?_, ⟨_, rfl⟩, hW, hsame.mono (by decide) (by decide)⟩
  · show Steps p.tables e below (s₁.setTop (mkF m 0 #[.val (.int (-8 : Int32)), .unset, .unset, .unset, .unset] [])) _
    refine st1 _ ?_
    show Steps p.tables e below (T1.setTop (mkF m 3 #[.val (.int (-8 : Int32)), .unset, .unset, .unset, .unset] [(.ref w_n10)])) _
    refine XS.astoreN X1.here hx rfl (hb hby d2_3) rfl rfl (l' := #[.val (.int (-8 : Int32)), .val (.ref w_n10), .unset, .unset, .unset]) rfl ?_
    show Steps p.tables e below (T1.setTop (mkF m 4 #[.val (.int (-8 : Int32)), .val (.ref w_n10), .unset, .unset, .unset] [])) _
    refine XS.aloadN X1.here hx rfl (hb hby d2_4) rfl rfl ?_
    show Steps p.tables e below (T1.setTop (mkF m 5 #[.val (.int (-8 : Int32)), .val (.ref w_n10), .unset, .unset, .unset] [(.ref w_n10)])) _
    refine X1.arraylength hx (by rw [e1]; exact Ar2.1) (State.isArrayOf_alike hZ.alike Ar2.2.1) (g := (mkF m 5 #[.val (.int (-8 : Int32)), .val (.ref w_n10), .unset, .unset, .unset] [(.ref w_n10)])) rfl rfl (hb hby d2_5) _ ?_
    rw [len_of Sz2 Nz2]
    show Steps p.tables e below (T1.setTop (mkF m 6 #[.val (.int (-8 : Int32)), .val (.ref w_n10), .unset, .unset, .unset] [(.int (11 : Int32))])) _
    refine XS.istoreN X1.here hx rfl (hb hby d2_6) rfl (l' := #[.val (.int (-8 : Int32)), .val (.ref w_n10), .val (.int (11 : Int32)), .unset, .unset]) rfl ?_
    show Steps p.tables e below (T1.setTop (mkF m 7 #[.val (.int (-8 : Int32)), .val (.ref w_n10), .val (.int (11 : Int32)), .unset, .unset] [])) _
    refine XS.iconst X1.here hx rfl (hb hby d2_7) ?_
    show Steps p.tables e below (T1.setTop (mkF m 8 #[.val (.int (-8 : Int32)), .val (.ref w_n10), .val (.int (11 : Int32)), .unset, .unset] [(.int (0 : Int32))])) _
    refine XS.istoreN X1.here hx rfl (hb hby d2_8) rfl (l' := #[.val (.int (-8 : Int32)), .val (.ref w_n10), .val (.int (11 : Int32)), .val (.int (0 : Int32)), .unset]) rfl ?_
    show Steps p.tables e below (T1.setTop (mkF m 9 #[.val (.int (-8 : Int32)), .val (.ref w_n10), .val (.int (11 : Int32)), .val (.int (0 : Int32)), .unset] [])) _
    refine XS.iloadN X1.here hx rfl (hb hby d2_9) rfl ?_
    show Steps p.tables e below (T1.setTop (mkF m 10 #[.val (.int (-8 : Int32)), .val (.ref w_n10), .val (.int (11 : Int32)), .val (.int (0 : Int32)), .unset] [(.int (0 : Int32))])) _
    refine XS.iloadN X1.here hx rfl (hb hby d2_10) rfl ?_
    show Steps p.tables e below (T1.setTop (mkF m 11 #[.val (.int (-8 : Int32)), .val (.ref w_n10), .val (.int (11 : Int32)), .val (.int (0 : Int32)), .unset] [(.int (11 : Int32)), (.int (0 : Int32))])) _
    refine XS.icmpNo X1.here hx rfl (hb hby d2_11) rfl (tlt ((by decide) : (0 : Int32) < (11 : Int32))).2.1 ?_
    show Steps p.tables e below (T1.setTop (mkF m 14 #[.val (.int (-8 : Int32)), .val (.ref w_n10), .val (.int (11 : Int32)), .val (.int (0 : Int32)), .unset] [])) _
    refine XS.aloadN X1.here hx rfl (hb hby d2_14) rfl rfl ?_
    show Steps p.tables e below (T1.setTop (mkF m 15 #[.val (.int (-8 : Int32)), .val (.ref w_n10), .val (.int (11 : Int32)), .val (.int (0 : Int32)), .unset] [(.ref w_n10)])) _
    refine XS.iloadN X1.here hx rfl (hb hby d2_15) rfl ?_
    show Steps p.tables e below (T1.setTop (mkF m 16 #[.val (.int (-8 : Int32)), .val (.ref w_n10), .val (.int (11 : Int32)), .val (.int (0 : Int32)), .unset] [(.int (0 : Int32)), (.ref w_n10)])) _
    refine X1.aaload hx (j := (0 : Int32)) (v := (.ref w_OK)) (by rw [e1]; exact Ar3.1) (State.isArrayOf_alike hZ.alike Ar3.2.1) rfl Ar3.2.2 hin3 hat3 (g := (mkF m 16 #[.val (.int (-8 : Int32)), .val (.ref w_n10), .val (.int (11 : Int32)), .val (.int (0 : Int32)), .unset] [(.int (0 : Int32)), (.ref w_n10)])) rfl rfl (hb hby d2_16) _ ?_
    show Steps p.tables e below (T1.setTop (mkF m 17 #[.val (.int (-8 : Int32)), .val (.ref w_n10), .val (.int (11 : Int32)), .val (.int (0 : Int32)), .unset] [(.ref w_OK)])) _
    refine XS.astore X1.here hx rfl (hb hby d2_17) rfl rfl (l' := #[.val (.int (-8 : Int32)), .val (.ref w_n10), .val (.int (11 : Int32)), .val (.int (0 : Int32)), .val (.ref w_OK)]) rfl ?_
    show Steps p.tables e below (T1.setTop (mkF m 19 #[.val (.int (-8 : Int32)), .val (.ref w_n10), .val (.int (11 : Int32)), .val (.int (0 : Int32)), .val (.ref w_OK)] [])) _
    refine XS.aload X1.here hx rfl (hb hby d2_19) rfl rfl ?_
    show Steps p.tables e below (T1.setTop (mkF m 21 #[.val (.int (-8 : Int32)), .val (.ref w_n10), .val (.int (11 : Int32)), .val (.int (0 : Int32)), .val (.ref w_OK)] [(.ref w_OK)])) _
    refine st4 _ ?_
    show Steps p.tables e below (T4.setTop (mkF m 24 #[.val (.int (-8 : Int32)), .val (.ref w_n10), .val (.int (11 : Int32)), .val (.int (0 : Int32)), .val (.ref w_OK)] [(.int (0 : Int32))])) _
    refine XS.iloadN X4.here hx rfl (hb hby d2_24) rfl ?_
    show Steps p.tables e below (T4.setTop (mkF m 25 #[.val (.int (-8 : Int32)), .val (.ref w_n10), .val (.int (11 : Int32)), .val (.int (0 : Int32)), .val (.ref w_OK)] [(.int (-8 : Int32)), (.int (0 : Int32))])) _
    refine XS.icmpYes X4.here hx rfl (pc0 := 25) (pc' := 34) rfl (hb hby d2_25) rfl (feq ((by decide) : ¬ ((0 : Int32) = (-8 : Int32)))).2 (by decide) (by decide) ?_
    show Steps p.tables e below (T4.setTop (mkF m 34 #[.val (.int (-8 : Int32)), .val (.ref w_n10), .val (.int (11 : Int32)), .val (.int (0 : Int32)), .val (.ref w_OK)] [])) _
    refine XS.iinc X4.here hx rfl (hb hby d2_34) rfl (l' := #[.val (.int (-8 : Int32)), .val (.ref w_n10), .val (.int (11 : Int32)), .val (.int ((0 : Int32) + (1 : Int32))), .val (.ref w_OK)]) rfl ?_
    show Steps p.tables e below (T4.setTop (mkF m 37 #[.val (.int (-8 : Int32)), .val (.ref w_n10), .val (.int (11 : Int32)), .val (.int ((0 : Int32) + (1 : Int32))), .val (.ref w_OK)] [])) _
    rw [show ((0 : Int32) + (1 : Int32)) = (1 : Int32) from by decide]
    show Steps p.tables e below (T4.setTop (mkF m 37 #[.val (.int (-8 : Int32)), .val (.ref w_n10), .val (.int (11 : Int32)), .val (.int (1 : Int32)), .val (.ref w_OK)] [])) _
    refine XS.goto X4.here hx rfl (pc0 := 37) (pc' := 9) rfl (hb hby d2_37) (by decide) (by decide) ?_
    show Steps p.tables e below (T4.setTop (mkF m 9 #[.val (.int (-8 : Int32)), .val (.ref w_n10), .val (.int (11 : Int32)), .val (.int (1 : Int32)), .val (.ref w_OK)] [])) _
    refine XS.iloadN X4.here hx rfl (hb hby d2_9) rfl ?_
    show Steps p.tables e below (T4.setTop (mkF m 10 #[.val (.int (-8 : Int32)), .val (.ref w_n10), .val (.int (11 : Int32)), .val (.int (1 : Int32)), .val (.ref w_OK)] [(.int (1 : Int32))])) _
    refine XS.iloadN X4.here hx rfl (hb hby d2_10) rfl ?_
    show Steps p.tables e below (T4.setTop (mkF m 11 #[.val (.int (-8 : Int32)), .val (.ref w_n10), .val (.int (11 : Int32)), .val (.int (1 : Int32)), .val (.ref w_OK)] [(.int (11 : Int32)), (.int (1 : Int32))])) _
    refine XS.icmpNo X4.here hx rfl (hb hby d2_11) rfl (tlt ((by decide) : (1 : Int32) < (11 : Int32))).2.1 ?_
    show Steps p.tables e below (T4.setTop (mkF m 14 #[.val (.int (-8 : Int32)), .val (.ref w_n10), .val (.int (11 : Int32)), .val (.int (1 : Int32)), .val (.ref w_OK)] [])) _
    refine XS.aloadN X4.here hx rfl (hb hby d2_14) rfl rfl ?_
    show Steps p.tables e below (T4.setTop (mkF m 15 #[.val (.int (-8 : Int32)), .val (.ref w_n10), .val (.int (11 : Int32)), .val (.int (1 : Int32)), .val (.ref w_OK)] [(.ref w_n10)])) _
    refine XS.iloadN X4.here hx rfl (hb hby d2_15) rfl ?_
    show Steps p.tables e below (T4.setTop (mkF m 16 #[.val (.int (-8 : Int32)), .val (.ref w_n10), .val (.int (11 : Int32)), .val (.int (1 : Int32)), .val (.ref w_OK)] [(.int (1 : Int32)), (.ref w_n10)])) _
    refine X4.aaload hx (j := (1 : Int32)) (v := (.ref w_n1)) (by rw [e4]; exact Ar5.1) (State.isArrayOf_alike hZ.alike Ar5.2.1) rfl Ar5.2.2 hin5 hat5 (g := (mkF m 16 #[.val (.int (-8 : Int32)), .val (.ref w_n10), .val (.int (11 : Int32)), .val (.int (1 : Int32)), .val (.ref w_OK)] [(.int (1 : Int32)), (.ref w_n10)])) rfl rfl (hb hby d2_16) _ ?_
    show Steps p.tables e below (T4.setTop (mkF m 17 #[.val (.int (-8 : Int32)), .val (.ref w_n10), .val (.int (11 : Int32)), .val (.int (1 : Int32)), .val (.ref w_OK)] [(.ref w_n1)])) _
    refine XS.astore X4.here hx rfl (hb hby d2_17) rfl rfl (l' := #[.val (.int (-8 : Int32)), .val (.ref w_n10), .val (.int (11 : Int32)), .val (.int (1 : Int32)), .val (.ref w_n1)]) rfl ?_
    show Steps p.tables e below (T4.setTop (mkF m 19 #[.val (.int (-8 : Int32)), .val (.ref w_n10), .val (.int (11 : Int32)), .val (.int (1 : Int32)), .val (.ref w_n1)] [])) _
    refine XS.aload X4.here hx rfl (hb hby d2_19) rfl rfl ?_
    show Steps p.tables e below (T4.setTop (mkF m 21 #[.val (.int (-8 : Int32)), .val (.ref w_n10), .val (.int (11 : Int32)), .val (.int (1 : Int32)), .val (.ref w_n1)] [(.ref w_n1)])) _
    refine st6 _ ?_
    show Steps p.tables e below (T6.setTop (mkF m 24 #[.val (.int (-8 : Int32)), .val (.ref w_n10), .val (.int (11 : Int32)), .val (.int (1 : Int32)), .val (.ref w_n1)] [(.int (-2 : Int32))])) _
    refine XS.iloadN X6.here hx rfl (hb hby d2_24) rfl ?_
    show Steps p.tables e below (T6.setTop (mkF m 25 #[.val (.int (-8 : Int32)), .val (.ref w_n10), .val (.int (11 : Int32)), .val (.int (1 : Int32)), .val (.ref w_n1)] [(.int (-8 : Int32)), (.int (-2 : Int32))])) _
    refine XS.icmpYes X6.here hx rfl (pc0 := 25) (pc' := 34) rfl (hb hby d2_25) rfl (feq ((by decide) : ¬ ((-2 : Int32) = (-8 : Int32)))).2 (by decide) (by decide) ?_
    show Steps p.tables e below (T6.setTop (mkF m 34 #[.val (.int (-8 : Int32)), .val (.ref w_n10), .val (.int (11 : Int32)), .val (.int (1 : Int32)), .val (.ref w_n1)] [])) _
    refine XS.iinc X6.here hx rfl (hb hby d2_34) rfl (l' := #[.val (.int (-8 : Int32)), .val (.ref w_n10), .val (.int (11 : Int32)), .val (.int ((1 : Int32) + (1 : Int32))), .val (.ref w_n1)]) rfl ?_
    show Steps p.tables e below (T6.setTop (mkF m 37 #[.val (.int (-8 : Int32)), .val (.ref w_n10), .val (.int (11 : Int32)), .val (.int ((1 : Int32) + (1 : Int32))), .val (.ref w_n1)] [])) _
    rw [show ((1 : Int32) + (1 : Int32)) = (2 : Int32) from by decide]
    show Steps p.tables e below (T6.setTop (mkF m 37 #[.val (.int (-8 : Int32)), .val (.ref w_n10), .val (.int (11 : Int32)), .val (.int (2 : Int32)), .val (.ref w_n1)] [])) _
    refine XS.goto X6.here hx rfl (pc0 := 37) (pc' := 9) rfl (hb hby d2_37) (by decide) (by decide) ?_
    show Steps p.tables e below (T6.setTop (mkF m 9 #[.val (.int (-8 : Int32)), .val (.ref w_n10), .val (.int (11 : Int32)), .val (.int (2 : Int32)), .val (.ref w_n1)] [])) _
    refine XS.iloadN X6.here hx rfl (hb hby d2_9) rfl ?_
    show Steps p.tables e below (T6.setTop (mkF m 10 #[.val (.int (-8 : Int32)), .val (.ref w_n10), .val (.int (11 : Int32)), .val (.int (2 : Int32)), .val (.ref w_n1)] [(.int (2 : Int32))])) _
    refine XS.iloadN X6.here hx rfl (hb hby d2_10) rfl ?_
    show Steps p.tables e below (T6.setTop (mkF m 11 #[.val (.int (-8 : Int32)), .val (.ref w_n10), .val (.int (11 : Int32)), .val (.int (2 : Int32)), .val (.ref w_n1)] [(.int (11 : Int32)), (.int (2 : Int32))])) _
    refine XS.icmpNo X6.here hx rfl (hb hby d2_11) rfl (tlt ((by decide) : (2 : Int32) < (11 : Int32))).2.1 ?_
    show Steps p.tables e below (T6.setTop (mkF m 14 #[.val (.int (-8 : Int32)), .val (.ref w_n10), .val (.int (11 : Int32)), .val (.int (2 : Int32)), .val (.ref w_n1)] [])) _
    refine XS.aloadN X6.here hx rfl (hb hby d2_14) rfl rfl ?_
    show Steps p.tables e below (T6.setTop (mkF m 15 #[.val (.int (-8 : Int32)), .val (.ref w_n10), .val (.int (11 : Int32)), .val (.int (2 : Int32)), .val (.ref w_n1)] [(.ref w_n10)])) _
    refine XS.iloadN X6.here hx rfl (hb hby d2_15) rfl ?_
    show Steps p.tables e below (T6.setTop (mkF m 16 #[.val (.int (-8 : Int32)), .val (.ref w_n10), .val (.int (11 : Int32)), .val (.int (2 : Int32)), .val (.ref w_n1)] [(.int (2 : Int32)), (.ref w_n10)])) _
    refine X6.aaload hx (j := (2 : Int32)) (v := (.ref w_n2)) (by rw [e6]; exact Ar7.1) (State.isArrayOf_alike hZ.alike Ar7.2.1) rfl Ar7.2.2 hin7 hat7 (g := (mkF m 16 #[.val (.int (-8 : Int32)), .val (.ref w_n10), .val (.int (11 : Int32)), .val (.int (2 : Int32)), .val (.ref w_n1)] [(.int (2 : Int32)), (.ref w_n10)])) rfl rfl (hb hby d2_16) _ ?_
    show Steps p.tables e below (T6.setTop (mkF m 17 #[.val (.int (-8 : Int32)), .val (.ref w_n10), .val (.int (11 : Int32)), .val (.int (2 : Int32)), .val (.ref w_n1)] [(.ref w_n2)])) _
    refine XS.astore X6.here hx rfl (hb hby d2_17) rfl rfl (l' := #[.val (.int (-8 : Int32)), .val (.ref w_n10), .val (.int (11 : Int32)), .val (.int (2 : Int32)), .val (.ref w_n2)]) rfl ?_
    show Steps p.tables e below (T6.setTop (mkF m 19 #[.val (.int (-8 : Int32)), .val (.ref w_n10), .val (.int (11 : Int32)), .val (.int (2 : Int32)), .val (.ref w_n2)] [])) _
    refine XS.aload X6.here hx rfl (hb hby d2_19) rfl rfl ?_
    show Steps p.tables e below (T6.setTop (mkF m 21 #[.val (.int (-8 : Int32)), .val (.ref w_n10), .val (.int (11 : Int32)), .val (.int (2 : Int32)), .val (.ref w_n2)] [(.ref w_n2)])) _
    refine st8 _ ?_
    show Steps p.tables e below (T8.setTop (mkF m 24 #[.val (.int (-8 : Int32)), .val (.ref w_n10), .val (.int (11 : Int32)), .val (.int (2 : Int32)), .val (.ref w_n2)] [(.int (-5 : Int32))])) _
    refine XS.iloadN X8.here hx rfl (hb hby d2_24) rfl ?_
    show Steps p.tables e below (T8.setTop (mkF m 25 #[.val (.int (-8 : Int32)), .val (.ref w_n10), .val (.int (11 : Int32)), .val (.int (2 : Int32)), .val (.ref w_n2)] [(.int (-8 : Int32)), (.int (-5 : Int32))])) _
    refine XS.icmpYes X8.here hx rfl (pc0 := 25) (pc' := 34) rfl (hb hby d2_25) rfl (feq ((by decide) : ¬ ((-5 : Int32) = (-8 : Int32)))).2 (by decide) (by decide) ?_
    show Steps p.tables e below (T8.setTop (mkF m 34 #[.val (.int (-8 : Int32)), .val (.ref w_n10), .val (.int (11 : Int32)), .val (.int (2 : Int32)), .val (.ref w_n2)] [])) _
    refine XS.iinc X8.here hx rfl (hb hby d2_34) rfl (l' := #[.val (.int (-8 : Int32)), .val (.ref w_n10), .val (.int (11 : Int32)), .val (.int ((2 : Int32) + (1 : Int32))), .val (.ref w_n2)]) rfl ?_
    show Steps p.tables e below (T8.setTop (mkF m 37 #[.val (.int (-8 : Int32)), .val (.ref w_n10), .val (.int (11 : Int32)), .val (.int ((2 : Int32) + (1 : Int32))), .val (.ref w_n2)] [])) _
    rw [show ((2 : Int32) + (1 : Int32)) = (3 : Int32) from by decide]
    show Steps p.tables e below (T8.setTop (mkF m 37 #[.val (.int (-8 : Int32)), .val (.ref w_n10), .val (.int (11 : Int32)), .val (.int (3 : Int32)), .val (.ref w_n2)] [])) _
    refine XS.goto X8.here hx rfl (pc0 := 37) (pc' := 9) rfl (hb hby d2_37) (by decide) (by decide) ?_
    show Steps p.tables e below (T8.setTop (mkF m 9 #[.val (.int (-8 : Int32)), .val (.ref w_n10), .val (.int (11 : Int32)), .val (.int (3 : Int32)), .val (.ref w_n2)] [])) _
    refine XS.iloadN X8.here hx rfl (hb hby d2_9) rfl ?_
    show Steps p.tables e below (T8.setTop (mkF m 10 #[.val (.int (-8 : Int32)), .val (.ref w_n10), .val (.int (11 : Int32)), .val (.int (3 : Int32)), .val (.ref w_n2)] [(.int (3 : Int32))])) _
    refine XS.iloadN X8.here hx rfl (hb hby d2_10) rfl ?_
    show Steps p.tables e below (T8.setTop (mkF m 11 #[.val (.int (-8 : Int32)), .val (.ref w_n10), .val (.int (11 : Int32)), .val (.int (3 : Int32)), .val (.ref w_n2)] [(.int (11 : Int32)), (.int (3 : Int32))])) _
    refine XS.icmpNo X8.here hx rfl (hb hby d2_11) rfl (tlt ((by decide) : (3 : Int32) < (11 : Int32))).2.1 ?_
    show Steps p.tables e below (T8.setTop (mkF m 14 #[.val (.int (-8 : Int32)), .val (.ref w_n10), .val (.int (11 : Int32)), .val (.int (3 : Int32)), .val (.ref w_n2)] [])) _
    refine XS.aloadN X8.here hx rfl (hb hby d2_14) rfl rfl ?_
    show Steps p.tables e below (T8.setTop (mkF m 15 #[.val (.int (-8 : Int32)), .val (.ref w_n10), .val (.int (11 : Int32)), .val (.int (3 : Int32)), .val (.ref w_n2)] [(.ref w_n10)])) _
    refine XS.iloadN X8.here hx rfl (hb hby d2_15) rfl ?_
    show Steps p.tables e below (T8.setTop (mkF m 16 #[.val (.int (-8 : Int32)), .val (.ref w_n10), .val (.int (11 : Int32)), .val (.int (3 : Int32)), .val (.ref w_n2)] [(.int (3 : Int32)), (.ref w_n10)])) _
    refine X8.aaload hx (j := (3 : Int32)) (v := (.ref w_n5)) (by rw [e8]; exact Ar9.1) (State.isArrayOf_alike hZ.alike Ar9.2.1) rfl Ar9.2.2 hin9 hat9 (g := (mkF m 16 #[.val (.int (-8 : Int32)), .val (.ref w_n10), .val (.int (11 : Int32)), .val (.int (3 : Int32)), .val (.ref w_n2)] [(.int (3 : Int32)), (.ref w_n10)])) rfl rfl (hb hby d2_16) _ ?_
    show Steps p.tables e below (T8.setTop (mkF m 17 #[.val (.int (-8 : Int32)), .val (.ref w_n10), .val (.int (11 : Int32)), .val (.int (3 : Int32)), .val (.ref w_n2)] [(.ref w_n5)])) _
    refine XS.astore X8.here hx rfl (hb hby d2_17) rfl rfl (l' := #[.val (.int (-8 : Int32)), .val (.ref w_n10), .val (.int (11 : Int32)), .val (.int (3 : Int32)), .val (.ref w_n5)]) rfl ?_
    show Steps p.tables e below (T8.setTop (mkF m 19 #[.val (.int (-8 : Int32)), .val (.ref w_n10), .val (.int (11 : Int32)), .val (.int (3 : Int32)), .val (.ref w_n5)] [])) _
    refine XS.aload X8.here hx rfl (hb hby d2_19) rfl rfl ?_
    show Steps p.tables e below (T8.setTop (mkF m 21 #[.val (.int (-8 : Int32)), .val (.ref w_n10), .val (.int (11 : Int32)), .val (.int (3 : Int32)), .val (.ref w_n5)] [(.ref w_n5)])) _
    refine st10 _ ?_
    show Steps p.tables e below (T10.setTop (mkF m 24 #[.val (.int (-8 : Int32)), .val (.ref w_n10), .val (.int (11 : Int32)), .val (.int (3 : Int32)), .val (.ref w_n5)] [(.int (-6 : Int32))])) _
    refine XS.iloadN X10.here hx rfl (hb hby d2_24) rfl ?_
    show Steps p.tables e below (T10.setTop (mkF m 25 #[.val (.int (-8 : Int32)), .val (.ref w_n10), .val (.int (11 : Int32)), .val (.int (3 : Int32)), .val (.ref w_n5)] [(.int (-8 : Int32)), (.int (-6 : Int32))])) _
    refine XS.icmpYes X10.here hx rfl (pc0 := 25) (pc' := 34) rfl (hb hby d2_25) rfl (feq ((by decide) : ¬ ((-6 : Int32) = (-8 : Int32)))).2 (by decide) (by decide) ?_
    show Steps p.tables e below (T10.setTop (mkF m 34 #[.val (.int (-8 : Int32)), .val (.ref w_n10), .val (.int (11 : Int32)), .val (.int (3 : Int32)), .val (.ref w_n5)] [])) _
    refine XS.iinc X10.here hx rfl (hb hby d2_34) rfl (l' := #[.val (.int (-8 : Int32)), .val (.ref w_n10), .val (.int (11 : Int32)), .val (.int ((3 : Int32) + (1 : Int32))), .val (.ref w_n5)]) rfl ?_
    show Steps p.tables e below (T10.setTop (mkF m 37 #[.val (.int (-8 : Int32)), .val (.ref w_n10), .val (.int (11 : Int32)), .val (.int ((3 : Int32) + (1 : Int32))), .val (.ref w_n5)] [])) _
    rw [show ((3 : Int32) + (1 : Int32)) = (4 : Int32) from by decide]
    show Steps p.tables e below (T10.setTop (mkF m 37 #[.val (.int (-8 : Int32)), .val (.ref w_n10), .val (.int (11 : Int32)), .val (.int (4 : Int32)), .val (.ref w_n5)] [])) _
    refine XS.goto X10.here hx rfl (pc0 := 37) (pc' := 9) rfl (hb hby d2_37) (by decide) (by decide) ?_
    show Steps p.tables e below (T10.setTop (mkF m 9 #[.val (.int (-8 : Int32)), .val (.ref w_n10), .val (.int (11 : Int32)), .val (.int (4 : Int32)), .val (.ref w_n5)] [])) _
    refine XS.iloadN X10.here hx rfl (hb hby d2_9) rfl ?_
    show Steps p.tables e below (T10.setTop (mkF m 10 #[.val (.int (-8 : Int32)), .val (.ref w_n10), .val (.int (11 : Int32)), .val (.int (4 : Int32)), .val (.ref w_n5)] [(.int (4 : Int32))])) _
    refine XS.iloadN X10.here hx rfl (hb hby d2_10) rfl ?_
    show Steps p.tables e below (T10.setTop (mkF m 11 #[.val (.int (-8 : Int32)), .val (.ref w_n10), .val (.int (11 : Int32)), .val (.int (4 : Int32)), .val (.ref w_n5)] [(.int (11 : Int32)), (.int (4 : Int32))])) _
    refine XS.icmpNo X10.here hx rfl (hb hby d2_11) rfl (tlt ((by decide) : (4 : Int32) < (11 : Int32))).2.1 ?_
    show Steps p.tables e below (T10.setTop (mkF m 14 #[.val (.int (-8 : Int32)), .val (.ref w_n10), .val (.int (11 : Int32)), .val (.int (4 : Int32)), .val (.ref w_n5)] [])) _
    refine XS.aloadN X10.here hx rfl (hb hby d2_14) rfl rfl ?_
    show Steps p.tables e below (T10.setTop (mkF m 15 #[.val (.int (-8 : Int32)), .val (.ref w_n10), .val (.int (11 : Int32)), .val (.int (4 : Int32)), .val (.ref w_n5)] [(.ref w_n10)])) _
    refine XS.iloadN X10.here hx rfl (hb hby d2_15) rfl ?_
    show Steps p.tables e below (T10.setTop (mkF m 16 #[.val (.int (-8 : Int32)), .val (.ref w_n10), .val (.int (11 : Int32)), .val (.int (4 : Int32)), .val (.ref w_n5)] [(.int (4 : Int32)), (.ref w_n10)])) _
    refine X10.aaload hx (j := (4 : Int32)) (v := (.ref w_n4)) (by rw [e10]; exact Ar11.1) (State.isArrayOf_alike hZ.alike Ar11.2.1) rfl Ar11.2.2 hin11 hat11 (g := (mkF m 16 #[.val (.int (-8 : Int32)), .val (.ref w_n10), .val (.int (11 : Int32)), .val (.int (4 : Int32)), .val (.ref w_n5)] [(.int (4 : Int32)), (.ref w_n10)])) rfl rfl (hb hby d2_16) _ ?_
    show Steps p.tables e below (T10.setTop (mkF m 17 #[.val (.int (-8 : Int32)), .val (.ref w_n10), .val (.int (11 : Int32)), .val (.int (4 : Int32)), .val (.ref w_n5)] [(.ref w_n4)])) _
    refine XS.astore X10.here hx rfl (hb hby d2_17) rfl rfl (l' := #[.val (.int (-8 : Int32)), .val (.ref w_n10), .val (.int (11 : Int32)), .val (.int (4 : Int32)), .val (.ref w_n4)]) rfl ?_
    show Steps p.tables e below (T10.setTop (mkF m 19 #[.val (.int (-8 : Int32)), .val (.ref w_n10), .val (.int (11 : Int32)), .val (.int (4 : Int32)), .val (.ref w_n4)] [])) _
    refine XS.aload X10.here hx rfl (hb hby d2_19) rfl rfl ?_
    show Steps p.tables e below (T10.setTop (mkF m 21 #[.val (.int (-8 : Int32)), .val (.ref w_n10), .val (.int (11 : Int32)), .val (.int (4 : Int32)), .val (.ref w_n4)] [(.ref w_n4)])) _
    refine st12 _ ?_
    show Steps p.tables e below (T12.setTop (mkF m 24 #[.val (.int (-8 : Int32)), .val (.ref w_n10), .val (.int (11 : Int32)), .val (.int (4 : Int32)), .val (.ref w_n4)] [(.int (-8 : Int32))])) _
    refine XS.iloadN X12.here hx rfl (hb hby d2_24) rfl ?_
    show Steps p.tables e below (T12.setTop (mkF m 25 #[.val (.int (-8 : Int32)), .val (.ref w_n10), .val (.int (11 : Int32)), .val (.int (4 : Int32)), .val (.ref w_n4)] [(.int (-8 : Int32)), (.int (-8 : Int32))])) _
    refine XS.icmpNo X12.here hx rfl (hb hby d2_25) rfl (teq ((by decide) : (-8 : Int32) = (-8 : Int32))).2 ?_
    show Steps p.tables e below (T12.setTop (mkF m 28 #[.val (.int (-8 : Int32)), .val (.ref w_n10), .val (.int (11 : Int32)), .val (.int (4 : Int32)), .val (.ref w_n4)] [])) _
    refine XS.aload X12.here hx rfl (hb hby d2_28) rfl rfl ?_
    show Steps p.tables e below (T12.setTop (mkF m 30 #[.val (.int (-8 : Int32)), .val (.ref w_n10), .val (.int (11 : Int32)), .val (.int (4 : Int32)), .val (.ref w_n4)] [(.ref w_n4)])) _
    refine st13 _ ?_
    show Steps p.tables e below (T13.setTop (mkF m 33 #[.val (.int (-8 : Int32)), .val (.ref w_n10), .val (.int (11 : Int32)), .val (.int (4 : Int32)), .val (.ref w_n4)] [(.ref b13_b1)])) _
    jvm_step X13.here [X13.here.top, hx, (hb hby d2_33), X13.method', Bd.returns, Value.isRef, FieldType.isReference]
    first | (intro acts; rw [hr _ acts rfl rfl rfl]) | rw [hr _ _ rfl rfl rfl]
    exact Steps.refl _
  · show QW (fun v h => ∃ b13_b1 : Addr, v = some (.ref b13_b1) ∧ Keep h0 h [] ∧ n0 ≤ b13_b1 ∧ h0.size ≤ b13_b1 ∧ Exa Z h b13_b1 "java/util/Optional" ∧ Fld Z h b13_b1 "java/util/Optional" "value" "Ljava/lang/Object;" (.ref w_n4)) n0 _ T13.heap _
    exact ⟨N13, ⟨b13_b1, rfl, K13, g_b13_b1, sz_b13_b1, fp13_0, fp13_1⟩⟩
theorem d8_38 : decode method_2_code 38 = .ok (.iload_n 0, 1) := by decide +kernel
theorem d8_39 : decode method_2_code 39 = .ok (.bipush (-8), 2) := by decide +kernel
theorem d8_41 : decode method_2_code 41 = .ok (.if_icmp .ne 7, 3) := by decide +kernel
theorem d8_44 : decode method_2_code 44 = .ok (.getstatic 22, 3) := by decide +kernel
theorem d8_47 : decode method_2_code 47 = .ok (.areturn, 1) := by decide +kernel
set_option maxRecDepth 65536 in
set_option maxHeartbeats 40000000 in
theorem rm_ex4 (l : Launch) (Z : State) (a0 : Array Value) (hw : ∀ d ∈ tables_1, d.before a0 Z = true) (ws : List Jvm.Cond) {w_n5 : Addr} {w_n10 : Addr} {w_OK : Addr} {w_n1 : Addr} {w_n2 : Addr} {w_n4 : Addr} {w_n9 : Addr} {w_n6 : Addr} {w_n0 : Addr} {w_n7 : Addr} {w_n8 : Addr} {w_n3 : Addr} {w_n11 : Addr} {k_n10 : ClassId} (W : Wd Z w_n5 w_n10 w_OK w_n1 w_n2 w_n4 w_n9 w_n6 w_n0 w_n7 w_n8 w_n3 w_n11 k_n10) (h0 : Heap) (n0 : Nat) (O0 : Old Z n0 h0) :
    MetFree l (⟨"com/example/usher/usher/wire/ErrorCodeForCodePinLaw", "expected", "(I)Lcom/example/usher/usher/wire/ErrorCode;"⟩ : MethodName) (head1 (Jvm.Cond.code (⟨"com/example/usher/usher/wire/ErrorCodeForCodePinLaw", "expected", "(I)Lcom/example/usher/usher/wire/ErrorCode;"⟩ : MethodName) method_2_code 1 (some (.object "com/example/usher/usher/wire/ErrorCode")) :: ws) ({ frames := 0, cells := 0, slots := 0, locals := 0 } : Room)) (fun a U => a = #[(.int (-8 : Int32))] ∧ Z.Warmed39 U.vm ∧ U.heap = h0) (fun _ _ _ _ _ => True) (fun _ U o U' => ∃ v L, o = .returned v ∧ QP (some (.ref w_n4)) h0 n0 v U'.heap L ∧ FrameEnd U o U' L ({ frames := 0, cells := 0, slots := 0, locals := 0 } : Room).cells ({ frames := 0, cells := 0, slots := 0, locals := 0 } : Room).slots) := by
  have W' := W; obtain ⟨S_n5, E_n5, S_n10, S_OK, E_OK, S_n1, E_n1, S_n2, E_n2, S_n4, E_n4, S_n9, E_n9, S_n6, E_n6, S_n0, E_n0, S_n7, E_n7, S_n8, E_n8, S_n3, E_n3, S_n11, E_n11, F_OK_code, F_n5_code, F_n1_code, F_n2_code, F_n4_code, F_n9_code, F_n6_code, F_n0_code, F_n7_code, F_n8_code, F_n3_code, F_n11_value, V_n10⟩ := W'
  refine MetFree.of_bodySF (plainFor_of_name pn_8) hisR ?_
  intro p e s m args below meth c s₁ Bd hml0 hP hK
  obtain ⟨rfl, hZ, hh⟩ := hP
  have hx := Bd.exec
  have hby := Bd.bytes
  have hml : c.maxLocals = 1 := hml0
  have hown : s.vm.findClass "com/example/usher/usher/wire/ErrorCodeForCodePinLaw" = some m.cls := findClass_of_methodNamed Bd.named
  have hnm := (name_of_methodNamed Bd.named Bd.method).1
  have X0 : Stand p l e ({ frames := 0, cells := 0, slots := 0, locals := 0 } : Room) s m #[(.int (-8 : Int32))] below meth c s₁ [] 0 0 := Stand.of_body Bd
  have e0 : s₁.heap = h0 := by rw [← hh, Bd.state]; rfl
  have N0 := Fr.nil n0
  have pre0 : ∀ t, Steps p.tables e below (s₁.setTop (mkF m 0 #[.val (.int (-8 : Int32))] [])) t → Steps p.tables e below (s₁.setTop (entryFrame m #[(.int (-8 : Int32))] 1)) t := fun t k => castTop (ef_8_5 m (-8 : Int32)) k
  obtain ⟨T1, X1, e1, st1⟩ := getS2 X0 hx hZ hown (host := "") (Or.inl (hw _ (List.mem_of_getElem? (i := 67) rfl))) Via.refl e0 (S_n4.ext O0.2) (g := (mkF m 44 #[.val (.int (-8 : Int32))] [])) rfl (hb hby d8_44)
  obtain ⟨fs, hr, hrun, hended, hW, hsame⟩ := X1.leave (v := some (.ref w_n4)) (fun h => by rw [Bd.returns] at h; cases h)
  refine ⟨_, _, pre0 _ ?_, hrun, hended, _, _, rfl, ?_, ⟨_, rfl⟩, hW, hsame.mono (by decide) (by decide)⟩
  · show Steps p.tables e below (s₁.setTop (mkF m 0 #[.val (.int (-8 : Int32))] [])) _
    refine XS.iloadN X0.here hx rfl (hb hby d8_0) rfl ?_
    show Steps p.tables e below (s₁.setTop (mkF m 1 #[.val (.int (-8 : Int32))] [(.int (-8 : Int32))])) _
    refine XS.ifYes X0.here hx rfl (pc0 := 1) (pc' := 8) rfl (hb hby d8_1) rfl ((if0 _ _).trans (feq ((by decide) : ¬ ((-8 : Int32) = (0 : Int32)))).2) (by decide) (by decide) ?_
    show Steps p.tables e below (s₁.setTop (mkF m 8 #[.val (.int (-8 : Int32))] [])) _
    refine XS.iloadN X0.here hx rfl (hb hby d8_8) rfl ?_
    show Steps p.tables e below (s₁.setTop (mkF m 9 #[.val (.int (-8 : Int32))] [(.int (-8 : Int32))])) _
    refine XS.bipush X0.here hx rfl (hb hby d8_9) ?_
    show Steps p.tables e below (s₁.setTop (mkF m 11 #[.val (.int (-8 : Int32))] [(.int (-2 : Int32)), (.int (-8 : Int32))])) _
    refine XS.icmpYes X0.here hx rfl (pc0 := 11) (pc' := 18) rfl (hb hby d8_11) rfl (feq ((by decide) : ¬ ((-8 : Int32) = (-2 : Int32)))).2 (by decide) (by decide) ?_
    show Steps p.tables e below (s₁.setTop (mkF m 18 #[.val (.int (-8 : Int32))] [])) _
    refine XS.iloadN X0.here hx rfl (hb hby d8_18) rfl ?_
    show Steps p.tables e below (s₁.setTop (mkF m 19 #[.val (.int (-8 : Int32))] [(.int (-8 : Int32))])) _
    refine XS.bipush X0.here hx rfl (hb hby d8_19) ?_
    show Steps p.tables e below (s₁.setTop (mkF m 21 #[.val (.int (-8 : Int32))] [(.int (-5 : Int32)), (.int (-8 : Int32))])) _
    refine XS.icmpYes X0.here hx rfl (pc0 := 21) (pc' := 28) rfl (hb hby d8_21) rfl (feq ((by decide) : ¬ ((-8 : Int32) = (-5 : Int32)))).2 (by decide) (by decide) ?_
    show Steps p.tables e below (s₁.setTop (mkF m 28 #[.val (.int (-8 : Int32))] [])) _
    refine XS.iloadN X0.here hx rfl (hb hby d8_28) rfl ?_
    show Steps p.tables e below (s₁.setTop (mkF m 29 #[.val (.int (-8 : Int32))] [(.int (-8 : Int32))])) _
    refine XS.bipush X0.here hx rfl (hb hby d8_29) ?_
    show Steps p.tables e below (s₁.setTop (mkF m 31 #[.val (.int (-8 : Int32))] [(.int (-6 : Int32)), (.int (-8 : Int32))])) _
    refine XS.icmpYes X0.here hx rfl (pc0 := 31) (pc' := 38) rfl (hb hby d8_31) rfl (feq ((by decide) : ¬ ((-8 : Int32) = (-6 : Int32)))).2 (by decide) (by decide) ?_
    show Steps p.tables e below (s₁.setTop (mkF m 38 #[.val (.int (-8 : Int32))] [])) _
    refine XS.iloadN X0.here hx rfl (hb hby d8_38) rfl ?_
    show Steps p.tables e below (s₁.setTop (mkF m 39 #[.val (.int (-8 : Int32))] [(.int (-8 : Int32))])) _
    refine XS.bipush X0.here hx rfl (hb hby d8_39) ?_
    show Steps p.tables e below (s₁.setTop (mkF m 41 #[.val (.int (-8 : Int32))] [(.int (-8 : Int32)), (.int (-8 : Int32))])) _
    refine XS.icmpNo X0.here hx rfl (hb hby d8_41) rfl (teq ((by decide) : (-8 : Int32) = (-8 : Int32))).2 ?_
    show Steps p.tables e below (s₁.setTop (mkF m 44 #[.val (.int (-8 : Int32))] [])) _
    refine st1 _ ?_
    show Steps p.tables e below (T1.setTop (mkF m 47 #[.val (.int (-8 : Int32))] [(.ref w_n4)])) _
    jvm_step X1.here [X1.here.top, hx, (hb hby d8_47), X1.method', Bd.returns, Value.isRef, FieldType.isReference]
    first | (intro acts; rw [hr _ acts rfl rfl rfl]) | rw [hr _ _ rfl rfl rfl]
    exact Steps.refl _
  · show QP (some (.ref w_n4)) h0 n0 _ T1.heap _
    rw [e1]
    exact ⟨rfl, N0, rfl⟩
theorem d1_35 : decode method_3_code 35 = .ok (.iload_n 0, 1) := by decide +kernel
theorem d1_36 : decode method_3_code 36 = .ok (.iconst 4, 1) := by decide +kernel
theorem d1_37 : decode method_3_code 37 = .ok (.if_icmp .ne 7, 3) := by decide +kernel
theorem d1_40 : decode method_3_code 40 = .ok (.getstatic 22, 3) := by decide +kernel
theorem d1_43 : decode method_3_code 43 = .ok (.areturn, 1) := by decide +kernel
set_option maxRecDepth 65536 in
set_option maxHeartbeats 40000000 in
theorem rm_pk4 (l : Launch) (Z : State) (a0 : Array Value) (hw : ∀ d ∈ tables_1, d.before a0 Z = true) (ws : List Jvm.Cond) {w_n5 : Addr} {w_n10 : Addr} {w_OK : Addr} {w_n1 : Addr} {w_n2 : Addr} {w_n4 : Addr} {w_n9 : Addr} {w_n6 : Addr} {w_n0 : Addr} {w_n7 : Addr} {w_n8 : Addr} {w_n3 : Addr} {w_n11 : Addr} {k_n10 : ClassId} (W : Wd Z w_n5 w_n10 w_OK w_n1 w_n2 w_n4 w_n9 w_n6 w_n0 w_n7 w_n8 w_n3 w_n11 k_n10) (h0 : Heap) (n0 : Nat) (O0 : Old Z n0 h0) :
    MetFree l (⟨"com/example/usher/usher/wire/ErrorCodeForCodePinLaw", "pick", "(I)Lcom/example/usher/usher/wire/ErrorCode;"⟩ : MethodName) (head1 (Jvm.Cond.code (⟨"com/example/usher/usher/wire/ErrorCodeForCodePinLaw", "pick", "(I)Lcom/example/usher/usher/wire/ErrorCode;"⟩ : MethodName) method_3_code 1 (some (.object "com/example/usher/usher/wire/ErrorCode")) :: ws) ({ frames := 0, cells := 0, slots := 0, locals := 0 } : Room)) (fun a U => a = #[(.int (4 : Int32))] ∧ Z.Warmed39 U.vm ∧ U.heap = h0) (fun _ _ _ _ _ => True) (fun _ U o U' => ∃ v L, o = .returned v ∧ QP (some (.ref w_n4)) h0 n0 v U'.heap L ∧ FrameEnd U o U' L ({ frames := 0, cells := 0, slots := 0, locals := 0 } : Room).cells ({ frames := 0, cells := 0, slots := 0, locals := 0 } : Room).slots) := by
  have W' := W; obtain ⟨S_n5, E_n5, S_n10, S_OK, E_OK, S_n1, E_n1, S_n2, E_n2, S_n4, E_n4, S_n9, E_n9, S_n6, E_n6, S_n0, E_n0, S_n7, E_n7, S_n8, E_n8, S_n3, E_n3, S_n11, E_n11, F_OK_code, F_n5_code, F_n1_code, F_n2_code, F_n4_code, F_n9_code, F_n6_code, F_n0_code, F_n7_code, F_n8_code, F_n3_code, F_n11_value, V_n10⟩ := W'
  refine MetFree.of_bodySF (plainFor_of_name pn_1) hisR ?_
  intro p e s m args below meth c s₁ Bd hml0 hP hK
  obtain ⟨rfl, hZ, hh⟩ := hP
  have hx := Bd.exec
  have hby := Bd.bytes
  have hml : c.maxLocals = 1 := hml0
  have hown : s.vm.findClass "com/example/usher/usher/wire/ErrorCodeForCodePinLaw" = some m.cls := findClass_of_methodNamed Bd.named
  have hnm := (name_of_methodNamed Bd.named Bd.method).1
  have X0 : Stand p l e ({ frames := 0, cells := 0, slots := 0, locals := 0 } : Room) s m #[(.int (4 : Int32))] below meth c s₁ [] 0 0 := Stand.of_body Bd
  have e0 : s₁.heap = h0 := by rw [← hh, Bd.state]; rfl
  have N0 := Fr.nil n0
  have pre0 : ∀ t, Steps p.tables e below (s₁.setTop (mkF m 0 #[.val (.int (4 : Int32))] [])) t → Steps p.tables e below (s₁.setTop (entryFrame m #[(.int (4 : Int32))] 1)) t := fun t k => castTop (ef_1_6 m (4 : Int32)) k
  obtain ⟨T1, X1, e1, st1⟩ := getS2 X0 hx hZ hown (host := "") (Or.inl (hw _ (List.mem_of_getElem? (i := 67) rfl))) Via.refl e0 (S_n4.ext O0.2) (g := (mkF m 40 #[.val (.int (4 : Int32))] [])) rfl (hb hby d1_40)
  obtain ⟨fs, hr, hrun, hended, hW, hsame⟩ := X1.leave (v := some (.ref w_n4)) (fun h => by rw [Bd.returns] at h; cases h)
  refine ⟨_, _, pre0 _ ?_, hrun, hended, _, _, rfl, ?_, ⟨_, rfl⟩, hW, hsame.mono (by decide) (by decide)⟩
  · show Steps p.tables e below (s₁.setTop (mkF m 0 #[.val (.int (4 : Int32))] [])) _
    refine XS.iloadN X0.here hx rfl (hb hby d1_0) rfl ?_
    show Steps p.tables e below (s₁.setTop (mkF m 1 #[.val (.int (4 : Int32))] [(.int (4 : Int32))])) _
    refine XS.ifYes X0.here hx rfl (pc0 := 1) (pc' := 8) rfl (hb hby d1_1) rfl ((if0 _ _).trans (feq ((by decide) : ¬ ((4 : Int32) = (0 : Int32)))).2) (by decide) (by decide) ?_
    show Steps p.tables e below (s₁.setTop (mkF m 8 #[.val (.int (4 : Int32))] [])) _
    refine XS.iloadN X0.here hx rfl (hb hby d1_8) rfl ?_
    show Steps p.tables e below (s₁.setTop (mkF m 9 #[.val (.int (4 : Int32))] [(.int (4 : Int32))])) _
    refine XS.iconst X0.here hx rfl (hb hby d1_9) ?_
    show Steps p.tables e below (s₁.setTop (mkF m 10 #[.val (.int (4 : Int32))] [(.int (1 : Int32)), (.int (4 : Int32))])) _
    refine XS.icmpYes X0.here hx rfl (pc0 := 10) (pc' := 17) rfl (hb hby d1_10) rfl (feq ((by decide) : ¬ ((4 : Int32) = (1 : Int32)))).2 (by decide) (by decide) ?_
    show Steps p.tables e below (s₁.setTop (mkF m 17 #[.val (.int (4 : Int32))] [])) _
    refine XS.iloadN X0.here hx rfl (hb hby d1_17) rfl ?_
    show Steps p.tables e below (s₁.setTop (mkF m 18 #[.val (.int (4 : Int32))] [(.int (4 : Int32))])) _
    refine XS.iconst X0.here hx rfl (hb hby d1_18) ?_
    show Steps p.tables e below (s₁.setTop (mkF m 19 #[.val (.int (4 : Int32))] [(.int (2 : Int32)), (.int (4 : Int32))])) _
    refine XS.icmpYes X0.here hx rfl (pc0 := 19) (pc' := 26) rfl (hb hby d1_19) rfl (feq ((by decide) : ¬ ((4 : Int32) = (2 : Int32)))).2 (by decide) (by decide) ?_
    show Steps p.tables e below (s₁.setTop (mkF m 26 #[.val (.int (4 : Int32))] [])) _
    refine XS.iloadN X0.here hx rfl (hb hby d1_26) rfl ?_
    show Steps p.tables e below (s₁.setTop (mkF m 27 #[.val (.int (4 : Int32))] [(.int (4 : Int32))])) _
    refine XS.iconst X0.here hx rfl (hb hby d1_27) ?_
    show Steps p.tables e below (s₁.setTop (mkF m 28 #[.val (.int (4 : Int32))] [(.int (3 : Int32)), (.int (4 : Int32))])) _
    refine XS.icmpYes X0.here hx rfl (pc0 := 28) (pc' := 35) rfl (hb hby d1_28) rfl (feq ((by decide) : ¬ ((4 : Int32) = (3 : Int32)))).2 (by decide) (by decide) ?_
    show Steps p.tables e below (s₁.setTop (mkF m 35 #[.val (.int (4 : Int32))] [])) _
    refine XS.iloadN X0.here hx rfl (hb hby d1_35) rfl ?_
    show Steps p.tables e below (s₁.setTop (mkF m 36 #[.val (.int (4 : Int32))] [(.int (4 : Int32))])) _
    refine XS.iconst X0.here hx rfl (hb hby d1_36) ?_
    show Steps p.tables e below (s₁.setTop (mkF m 37 #[.val (.int (4 : Int32))] [(.int (4 : Int32)), (.int (4 : Int32))])) _
    refine XS.icmpNo X0.here hx rfl (hb hby d1_37) rfl (teq ((by decide) : (4 : Int32) = (4 : Int32))).2 ?_
    show Steps p.tables e below (s₁.setTop (mkF m 40 #[.val (.int (4 : Int32))] [])) _
    refine st1 _ ?_
    show Steps p.tables e below (T1.setTop (mkF m 43 #[.val (.int (4 : Int32))] [(.ref w_n4)])) _
    jvm_step X1.here [X1.here.top, hx, (hb hby d1_43), X1.method', Bd.returns, Value.isRef, FieldType.isReference]
    first | (intro acts; rw [hr _ acts rfl rfl rfl]) | rw [hr _ _ rfl rfl rfl]
    exact Steps.refl _
  · show QP (some (.ref w_n4)) h0 n0 _ T1.heap _
    rw [e1]
    exact ⟨rfl, N0, rfl⟩
set_option maxRecDepth 65536 in
set_option maxHeartbeats 40000000 in
theorem rm_fc5 (l : Launch) (Z : State) (a0 : Array Value) (hw : ∀ d ∈ tables_1, d.before a0 Z = true) (ws : List Jvm.Cond) {w_n5 : Addr} {w_n10 : Addr} {w_OK : Addr} {w_n1 : Addr} {w_n2 : Addr} {w_n4 : Addr} {w_n9 : Addr} {w_n6 : Addr} {w_n0 : Addr} {w_n7 : Addr} {w_n8 : Addr} {w_n3 : Addr} {w_n11 : Addr} {k_n10 : ClassId} (W : Wd Z w_n5 w_n10 w_OK w_n1 w_n2 w_n4 w_n9 w_n6 w_n0 w_n7 w_n8 w_n3 w_n11 k_n10) (h0 : Heap) (n0 : Nat) (O0 : Old Z n0 h0) :
    MetFree l (⟨"com/example/usher/usher/wire/ErrorCode", "forCode", "(I)Ljava/util/Optional;"⟩ : MethodName) (head1 (Jvm.Cond.code (⟨"com/example/usher/usher/wire/ErrorCode", "forCode", "(I)Ljava/util/Optional;"⟩ : MethodName) prog_14_method_5_code 5 (some (.object "java/util/Optional")) :: ws) ({ frames := 3, cells := 1, slots := 1, locals := 38 } : Room)) (fun a U => a = #[(.int (-101 : Int32))] ∧ Z.Warmed39 U.vm ∧ U.heap = h0) (fun _ _ _ _ _ => True) (fun _ U o U' => ∃ v L, o = .returned v ∧ QW (fun v h => ∃ b15_b1 : Addr, v = some (.ref b15_b1) ∧ Keep h0 h [] ∧ n0 ≤ b15_b1 ∧ h0.size ≤ b15_b1 ∧ Exa Z h b15_b1 "java/util/Optional" ∧ Fld Z h b15_b1 "java/util/Optional" "value" "Ljava/lang/Object;" (.ref w_n9)) n0 v U'.heap L ∧ FrameEnd U o U' L ({ frames := 3, cells := 1, slots := 1, locals := 38 } : Room).cells ({ frames := 3, cells := 1, slots := 1, locals := 38 } : Room).slots) := by
  have W' := W; obtain ⟨S_n5, E_n5, S_n10, S_OK, E_OK, S_n1, E_n1, S_n2, E_n2, S_n4, E_n4, S_n9, E_n9, S_n6, E_n6, S_n0, E_n0, S_n7, E_n7, S_n8, E_n8, S_n3, E_n3, S_n11, E_n11, F_OK_code, F_n5_code, F_n1_code, F_n2_code, F_n4_code, F_n9_code, F_n6_code, F_n0_code, F_n7_code, F_n8_code, F_n3_code, F_n11_value, V_n10⟩ := W'
  refine MetFree.of_bodySF (plainFor_of_name pn_2) hisR ?_
  intro p e s m args below meth c s₁ Bd hml0 hP hK
  obtain ⟨rfl, hZ, hh⟩ := hP
  have hx := Bd.exec
  have hby := Bd.bytes
  have hml : c.maxLocals = 5 := hml0
  have hown : s.vm.findClass "com/example/usher/usher/wire/ErrorCode" = some m.cls := findClass_of_methodNamed Bd.named
  have hnm := (name_of_methodNamed Bd.named Bd.method).1
  have X0 : Stand p l e ({ frames := 3, cells := 1, slots := 1, locals := 38 } : Room) s m #[(.int (-101 : Int32))] below meth c s₁ [] 0 0 := Stand.of_body Bd
  have e0 : s₁.heap = h0 := by rw [← hh, Bd.state]; rfl
  have N0 := Fr.nil n0
  have pre0 : ∀ t, Steps p.tables e below (s₁.setTop (mkF m 0 #[.val (.int (-101 : Int32)), .unset, .unset, .unset, .unset] [])) t → Steps p.tables e below (s₁.setTop (entryFrame m #[(.int (-101 : Int32))] 5)) t := fun t k => castTop (ef_2_4 m (-101 : Int32)) k
  obtain ⟨T1, X1, e1, st1⟩ := getS2 X0 hx hZ hown (host := "") (Or.inl (hw _ (List.mem_of_getElem? (i := 11) rfl))) Via.refl e0 (S_n10.ext O0.2) (g := (mkF m 0 #[.val (.int (-101 : Int32)), .unset, .unset, .unset, .unset] [])) rfl (hb hby d2_0)
  obtain ⟨cl2, Ar2, qk2, Sz2, Nz2, Hs2, Gs2⟩ := id (V_n10.ext O0.2)
  obtain ⟨cl3, Ar3, qk3, Sz3, Nz3, Hs3, Gs3⟩ := id (V_n10.ext O0.2)
  have hin3 : ¬ ((0 : Int32) < 0 ∨ cl3.slots.size ≤ ((0 : Int32)).toNatClampNeg) := inb_of Sz3 ⟨by decide, by decide⟩
  have hat3 : cl3.slots[((0 : Int32)).toNatClampNeg]? = some (.ref w_OK) := Has.at Hs3 hin3 rfl
  obtain ⟨T4, X4, e4, st4⟩ := getF X1 hx hZ hown (host := "") (Or.inl (hw _ (List.mem_of_getElem? (i := 14) rfl))) Via.refl e1 (F_OK_code.ext O0.2) (g := (mkF m 21 #[.val (.int (-101 : Int32)), .val (.ref w_n10), .val (.int (11 : Int32)), .val (.int (0 : Int32)), .val (.ref w_OK)] [(.ref w_OK)])) rfl rfl (hb hby d2_21)
  obtain ⟨cl5, Ar5, qk5, Sz5, Nz5, Hs5, Gs5⟩ := id (V_n10.ext O0.2)
  have hin5 : ¬ ((1 : Int32) < 0 ∨ cl5.slots.size ≤ ((1 : Int32)).toNatClampNeg) := inb_of Sz5 ⟨by decide, by decide⟩
  have hat5 : cl5.slots[((1 : Int32)).toNatClampNeg]? = some (.ref w_n1) := Has.at Hs5 hin5 rfl
  obtain ⟨T6, X6, e6, st6⟩ := getF X4 hx hZ hown (host := "") (Or.inl (hw _ (List.mem_of_getElem? (i := 14) rfl))) Via.refl e4 (F_n1_code.ext O0.2) (g := (mkF m 21 #[.val (.int (-101 : Int32)), .val (.ref w_n10), .val (.int (11 : Int32)), .val (.int (1 : Int32)), .val (.ref w_n1)] [(.ref w_n1)])) rfl rfl (hb hby d2_21)
  obtain ⟨cl7, Ar7, qk7, Sz7, Nz7, Hs7, Gs7⟩ := id (V_n10.ext O0.2)
  have hin7 : ¬ ((2 : Int32) < 0 ∨ cl7.slots.size ≤ ((2 : Int32)).toNatClampNeg) := inb_of Sz7 ⟨by decide, by decide⟩
  have hat7 : cl7.slots[((2 : Int32)).toNatClampNeg]? = some (.ref w_n2) := Has.at Hs7 hin7 rfl
  obtain ⟨T8, X8, e8, st8⟩ := getF X6 hx hZ hown (host := "") (Or.inl (hw _ (List.mem_of_getElem? (i := 14) rfl))) Via.refl e6 (F_n2_code.ext O0.2) (g := (mkF m 21 #[.val (.int (-101 : Int32)), .val (.ref w_n10), .val (.int (11 : Int32)), .val (.int (2 : Int32)), .val (.ref w_n2)] [(.ref w_n2)])) rfl rfl (hb hby d2_21)
  obtain ⟨cl9, Ar9, qk9, Sz9, Nz9, Hs9, Gs9⟩ := id (V_n10.ext O0.2)
  have hin9 : ¬ ((3 : Int32) < 0 ∨ cl9.slots.size ≤ ((3 : Int32)).toNatClampNeg) := inb_of Sz9 ⟨by decide, by decide⟩
  have hat9 : cl9.slots[((3 : Int32)).toNatClampNeg]? = some (.ref w_n5) := Has.at Hs9 hin9 rfl
  obtain ⟨T10, X10, e10, st10⟩ := getF X8 hx hZ hown (host := "") (Or.inl (hw _ (List.mem_of_getElem? (i := 14) rfl))) Via.refl e8 (F_n5_code.ext O0.2) (g := (mkF m 21 #[.val (.int (-101 : Int32)), .val (.ref w_n10), .val (.int (11 : Int32)), .val (.int (3 : Int32)), .val (.ref w_n5)] [(.ref w_n5)])) rfl rfl (hb hby d2_21)
  obtain ⟨cl11, Ar11, qk11, Sz11, Nz11, Hs11, Gs11⟩ := id (V_n10.ext O0.2)
  have hin11 : ¬ ((4 : Int32) < 0 ∨ cl11.slots.size ≤ ((4 : Int32)).toNatClampNeg) := inb_of Sz11 ⟨by decide, by decide⟩
  have hat11 : cl11.slots[((4 : Int32)).toNatClampNeg]? = some (.ref w_n4) := Has.at Hs11 hin11 rfl
  obtain ⟨T12, X12, e12, st12⟩ := getF X10 hx hZ hown (host := "") (Or.inl (hw _ (List.mem_of_getElem? (i := 14) rfl))) Via.refl e10 (F_n4_code.ext O0.2) (g := (mkF m 21 #[.val (.int (-101 : Int32)), .val (.ref w_n10), .val (.int (11 : Int32)), .val (.int (4 : Int32)), .val (.ref w_n4)] [(.ref w_n4)])) rfl rfl (hb hby d2_21)
  obtain ⟨cl13, Ar13, qk13, Sz13, Nz13, Hs13, Gs13⟩ := id (V_n10.ext O0.2)
  have hin13 : ¬ ((5 : Int32) < 0 ∨ cl13.slots.size ≤ ((5 : Int32)).toNatClampNeg) := inb_of Sz13 ⟨by decide, by decide⟩
  have hat13 : cl13.slots[((5 : Int32)).toNatClampNeg]? = some (.ref w_n9) := Has.at Hs13 hin13 rfl
  obtain ⟨T14, X14, e14, st14⟩ := getF X12 hx hZ hown (host := "") (Or.inl (hw _ (List.mem_of_getElem? (i := 14) rfl))) Via.refl e12 (F_n9_code.ext O0.2) (g := (mkF m 21 #[.val (.int (-101 : Int32)), .val (.ref w_n10), .val (.int (11 : Int32)), .val (.int (5 : Int32)), .val (.ref w_n9)] [(.ref w_n9)])) rfl rfl (hb hby d2_21)
  obtain ⟨_, _, ⟨T15, L15, k15, n15⟩, -, X15, ⟨Lc15, hQ15, l15, y15, z15⟩, st15⟩ := Jvm.LawKit.callS X14 hx (y := (⟨"java/util/Optional", "of", "(Ljava/lang/Object;)Ljava/util/Optional;"⟩ : MethodName)) hown (mvT hZ (hw _ (List.mem_of_getElem? (i := 16) rfl))) (mvT hZ (hw _ (List.mem_of_getElem? (i := 17) rfl))) (mvT hZ (hw _ (List.mem_of_getElem? (i := 18) rfl))) (mvT hZ (hw _ (List.mem_of_getElem? (i := 19) rfl))) (by decide) (backOf (W := 0) (rm_of l Z a0 hw [] W w_n9 h0 n0 O0 ) hZ (hw _ (List.mem_of_getElem? (i := 19) rfl)) (hw _ (List.mem_of_getElem? (i := 18) rfl)) (by decide) (by decide)) (g := (mkF m 30 #[.val (.int (-101 : Int32)), .val (.ref w_n10), .val (.int (11 : Int32)), .val (.int (5 : Int32)), .val (.ref w_n9)] [(.ref w_n9)])) rfl (by rw [hml]; rfl) (argsL := [(.ref w_n9)]) (rest := []) (lenOf pd_2 rfl) rfl (by show 2 * 0 + _ ≤ _; exact Nat.le_of_eq rfl) (hb hby d2_30) (fun _ _ => ⟨rfl, e14, (by decide : 0 + 1 ≤ _), (by decide : 0 + 1 ≤ _)⟩)
  dsimp only [Pt.U, Pt.locs, Pt.cells, Pt.slots] at X15 l15 y15 z15 st15 hQ15
  subst l15 y15 z15
  obtain ⟨N15q, hP15⟩ := hQ15
  have N15 := Fr.app N0 N15q
  obtain ⟨b15_b1, rfl, Kp15, g_b15_b1, si_b15_b1, fp15_0, fp15_1⟩ := hP15
  have O15 := O0.keep Kp15 all0
  have sz_b15_b1 : h0.size ≤ b15_b1 := Nat.le_trans ((Keep.refl h0 [])).1 si_b15_b1
  have K15 : Keep h0 T15.heap [] := (Keep.refl h0 []).trans Kp15 all0
  obtain ⟨fs, hr, hrun, hended, hW, hsame⟩ := X15.leave (v := some (.ref b15_b1)) (fun h => by rw [Bd.returns] at h; cases h)
  refine ⟨_, _, pre0 _ ?_, hrun, hended, _, _, rfl, ?_, ⟨_, rfl⟩, hW, hsame.mono (by decide) (by decide)⟩
  · show Steps p.tables e below (s₁.setTop (mkF m 0 #[.val (.int (-101 : Int32)), .unset, .unset, .unset, .unset] [])) _
    refine st1 _ ?_
    show Steps p.tables e below (T1.setTop (mkF m 3 #[.val (.int (-101 : Int32)), .unset, .unset, .unset, .unset] [(.ref w_n10)])) _
    refine XS.astoreN X1.here hx rfl (hb hby d2_3) rfl rfl (l' := #[.val (.int (-101 : Int32)), .val (.ref w_n10), .unset, .unset, .unset]) rfl ?_
    show Steps p.tables e below (T1.setTop (mkF m 4 #[.val (.int (-101 : Int32)), .val (.ref w_n10), .unset, .unset, .unset] [])) _
    refine XS.aloadN X1.here hx rfl (hb hby d2_4) rfl rfl ?_
    show Steps p.tables e below (T1.setTop (mkF m 5 #[.val (.int (-101 : Int32)), .val (.ref w_n10), .unset, .unset, .unset] [(.ref w_n10)])) _
    refine X1.arraylength hx (by rw [e1]; exact Ar2.1) (State.isArrayOf_alike hZ.alike Ar2.2.1) (g := (mkF m 5 #[.val (.int (-101 : Int32)), .val (.ref w_n10), .unset, .unset, .unset] [(.ref w_n10)])) rfl rfl (hb hby d2_5) _ ?_
    rw [len_of Sz2 Nz2]
    show Steps p.tables e below (T1.setTop (mkF m 6 #[.val (.int (-101 : Int32)), .val (.ref w_n10), .unset, .unset, .unset] [(.int (11 : Int32))])) _
    refine XS.istoreN X1.here hx rfl (hb hby d2_6) rfl (l' := #[.val (.int (-101 : Int32)), .val (.ref w_n10), .val (.int (11 : Int32)), .unset, .unset]) rfl ?_
    show Steps p.tables e below (T1.setTop (mkF m 7 #[.val (.int (-101 : Int32)), .val (.ref w_n10), .val (.int (11 : Int32)), .unset, .unset] [])) _
    refine XS.iconst X1.here hx rfl (hb hby d2_7) ?_
    show Steps p.tables e below (T1.setTop (mkF m 8 #[.val (.int (-101 : Int32)), .val (.ref w_n10), .val (.int (11 : Int32)), .unset, .unset] [(.int (0 : Int32))])) _
    refine XS.istoreN X1.here hx rfl (hb hby d2_8) rfl (l' := #[.val (.int (-101 : Int32)), .val (.ref w_n10), .val (.int (11 : Int32)), .val (.int (0 : Int32)), .unset]) rfl ?_
    show Steps p.tables e below (T1.setTop (mkF m 9 #[.val (.int (-101 : Int32)), .val (.ref w_n10), .val (.int (11 : Int32)), .val (.int (0 : Int32)), .unset] [])) _
    refine XS.iloadN X1.here hx rfl (hb hby d2_9) rfl ?_
    show Steps p.tables e below (T1.setTop (mkF m 10 #[.val (.int (-101 : Int32)), .val (.ref w_n10), .val (.int (11 : Int32)), .val (.int (0 : Int32)), .unset] [(.int (0 : Int32))])) _
    refine XS.iloadN X1.here hx rfl (hb hby d2_10) rfl ?_
    show Steps p.tables e below (T1.setTop (mkF m 11 #[.val (.int (-101 : Int32)), .val (.ref w_n10), .val (.int (11 : Int32)), .val (.int (0 : Int32)), .unset] [(.int (11 : Int32)), (.int (0 : Int32))])) _
    refine XS.icmpNo X1.here hx rfl (hb hby d2_11) rfl (tlt ((by decide) : (0 : Int32) < (11 : Int32))).2.1 ?_
    show Steps p.tables e below (T1.setTop (mkF m 14 #[.val (.int (-101 : Int32)), .val (.ref w_n10), .val (.int (11 : Int32)), .val (.int (0 : Int32)), .unset] [])) _
    refine XS.aloadN X1.here hx rfl (hb hby d2_14) rfl rfl ?_
    show Steps p.tables e below (T1.setTop (mkF m 15 #[.val (.int (-101 : Int32)), .val (.ref w_n10), .val (.int (11 : Int32)), .val (.int (0 : Int32)), .unset] [(.ref w_n10)])) _
    refine XS.iloadN X1.here hx rfl (hb hby d2_15) rfl ?_
    show Steps p.tables e below (T1.setTop (mkF m 16 #[.val (.int (-101 : Int32)), .val (.ref w_n10), .val (.int (11 : Int32)), .val (.int (0 : Int32)), .unset] [(.int (0 : Int32)), (.ref w_n10)])) _
    refine X1.aaload hx (j := (0 : Int32)) (v := (.ref w_OK)) (by rw [e1]; exact Ar3.1) (State.isArrayOf_alike hZ.alike Ar3.2.1) rfl Ar3.2.2 hin3 hat3 (g := (mkF m 16 #[.val (.int (-101 : Int32)), .val (.ref w_n10), .val (.int (11 : Int32)), .val (.int (0 : Int32)), .unset] [(.int (0 : Int32)), (.ref w_n10)])) rfl rfl (hb hby d2_16) _ ?_
    show Steps p.tables e below (T1.setTop (mkF m 17 #[.val (.int (-101 : Int32)), .val (.ref w_n10), .val (.int (11 : Int32)), .val (.int (0 : Int32)), .unset] [(.ref w_OK)])) _
    refine XS.astore X1.here hx rfl (hb hby d2_17) rfl rfl (l' := #[.val (.int (-101 : Int32)), .val (.ref w_n10), .val (.int (11 : Int32)), .val (.int (0 : Int32)), .val (.ref w_OK)]) rfl ?_
    show Steps p.tables e below (T1.setTop (mkF m 19 #[.val (.int (-101 : Int32)), .val (.ref w_n10), .val (.int (11 : Int32)), .val (.int (0 : Int32)), .val (.ref w_OK)] [])) _
    refine XS.aload X1.here hx rfl (hb hby d2_19) rfl rfl ?_
    show Steps p.tables e below (T1.setTop (mkF m 21 #[.val (.int (-101 : Int32)), .val (.ref w_n10), .val (.int (11 : Int32)), .val (.int (0 : Int32)), .val (.ref w_OK)] [(.ref w_OK)])) _
    refine st4 _ ?_
    show Steps p.tables e below (T4.setTop (mkF m 24 #[.val (.int (-101 : Int32)), .val (.ref w_n10), .val (.int (11 : Int32)), .val (.int (0 : Int32)), .val (.ref w_OK)] [(.int (0 : Int32))])) _
    refine XS.iloadN X4.here hx rfl (hb hby d2_24) rfl ?_
    show Steps p.tables e below (T4.setTop (mkF m 25 #[.val (.int (-101 : Int32)), .val (.ref w_n10), .val (.int (11 : Int32)), .val (.int (0 : Int32)), .val (.ref w_OK)] [(.int (-101 : Int32)), (.int (0 : Int32))])) _
    refine XS.icmpYes X4.here hx rfl (pc0 := 25) (pc' := 34) rfl (hb hby d2_25) rfl (feq ((by decide) : ¬ ((0 : Int32) = (-101 : Int32)))).2 (by decide) (by decide) ?_
    show Steps p.tables e below (T4.setTop (mkF m 34 #[.val (.int (-101 : Int32)), .val (.ref w_n10), .val (.int (11 : Int32)), .val (.int (0 : Int32)), .val (.ref w_OK)] [])) _
    refine XS.iinc X4.here hx rfl (hb hby d2_34) rfl (l' := #[.val (.int (-101 : Int32)), .val (.ref w_n10), .val (.int (11 : Int32)), .val (.int ((0 : Int32) + (1 : Int32))), .val (.ref w_OK)]) rfl ?_
    show Steps p.tables e below (T4.setTop (mkF m 37 #[.val (.int (-101 : Int32)), .val (.ref w_n10), .val (.int (11 : Int32)), .val (.int ((0 : Int32) + (1 : Int32))), .val (.ref w_OK)] [])) _
    rw [show ((0 : Int32) + (1 : Int32)) = (1 : Int32) from by decide]
    show Steps p.tables e below (T4.setTop (mkF m 37 #[.val (.int (-101 : Int32)), .val (.ref w_n10), .val (.int (11 : Int32)), .val (.int (1 : Int32)), .val (.ref w_OK)] [])) _
    refine XS.goto X4.here hx rfl (pc0 := 37) (pc' := 9) rfl (hb hby d2_37) (by decide) (by decide) ?_
    show Steps p.tables e below (T4.setTop (mkF m 9 #[.val (.int (-101 : Int32)), .val (.ref w_n10), .val (.int (11 : Int32)), .val (.int (1 : Int32)), .val (.ref w_OK)] [])) _
    refine XS.iloadN X4.here hx rfl (hb hby d2_9) rfl ?_
    show Steps p.tables e below (T4.setTop (mkF m 10 #[.val (.int (-101 : Int32)), .val (.ref w_n10), .val (.int (11 : Int32)), .val (.int (1 : Int32)), .val (.ref w_OK)] [(.int (1 : Int32))])) _
    refine XS.iloadN X4.here hx rfl (hb hby d2_10) rfl ?_
    show Steps p.tables e below (T4.setTop (mkF m 11 #[.val (.int (-101 : Int32)), .val (.ref w_n10), .val (.int (11 : Int32)), .val (.int (1 : Int32)), .val (.ref w_OK)] [(.int (11 : Int32)), (.int (1 : Int32))])) _
    refine XS.icmpNo X4.here hx rfl (hb hby d2_11) rfl (tlt ((by decide) : (1 : Int32) < (11 : Int32))).2.1 ?_
    show Steps p.tables e below (T4.setTop (mkF m 14 #[.val (.int (-101 : Int32)), .val (.ref w_n10), .val (.int (11 : Int32)), .val (.int (1 : Int32)), .val (.ref w_OK)] [])) _
    refine XS.aloadN X4.here hx rfl (hb hby d2_14) rfl rfl ?_
    show Steps p.tables e below (T4.setTop (mkF m 15 #[.val (.int (-101 : Int32)), .val (.ref w_n10), .val (.int (11 : Int32)), .val (.int (1 : Int32)), .val (.ref w_OK)] [(.ref w_n10)])) _
    refine XS.iloadN X4.here hx rfl (hb hby d2_15) rfl ?_
    show Steps p.tables e below (T4.setTop (mkF m 16 #[.val (.int (-101 : Int32)), .val (.ref w_n10), .val (.int (11 : Int32)), .val (.int (1 : Int32)), .val (.ref w_OK)] [(.int (1 : Int32)), (.ref w_n10)])) _
    refine X4.aaload hx (j := (1 : Int32)) (v := (.ref w_n1)) (by rw [e4]; exact Ar5.1) (State.isArrayOf_alike hZ.alike Ar5.2.1) rfl Ar5.2.2 hin5 hat5 (g := (mkF m 16 #[.val (.int (-101 : Int32)), .val (.ref w_n10), .val (.int (11 : Int32)), .val (.int (1 : Int32)), .val (.ref w_OK)] [(.int (1 : Int32)), (.ref w_n10)])) rfl rfl (hb hby d2_16) _ ?_
    show Steps p.tables e below (T4.setTop (mkF m 17 #[.val (.int (-101 : Int32)), .val (.ref w_n10), .val (.int (11 : Int32)), .val (.int (1 : Int32)), .val (.ref w_OK)] [(.ref w_n1)])) _
    refine XS.astore X4.here hx rfl (hb hby d2_17) rfl rfl (l' := #[.val (.int (-101 : Int32)), .val (.ref w_n10), .val (.int (11 : Int32)), .val (.int (1 : Int32)), .val (.ref w_n1)]) rfl ?_
    show Steps p.tables e below (T4.setTop (mkF m 19 #[.val (.int (-101 : Int32)), .val (.ref w_n10), .val (.int (11 : Int32)), .val (.int (1 : Int32)), .val (.ref w_n1)] [])) _
    refine XS.aload X4.here hx rfl (hb hby d2_19) rfl rfl ?_
    show Steps p.tables e below (T4.setTop (mkF m 21 #[.val (.int (-101 : Int32)), .val (.ref w_n10), .val (.int (11 : Int32)), .val (.int (1 : Int32)), .val (.ref w_n1)] [(.ref w_n1)])) _
    refine st6 _ ?_
    show Steps p.tables e below (T6.setTop (mkF m 24 #[.val (.int (-101 : Int32)), .val (.ref w_n10), .val (.int (11 : Int32)), .val (.int (1 : Int32)), .val (.ref w_n1)] [(.int (-2 : Int32))])) _
    refine XS.iloadN X6.here hx rfl (hb hby d2_24) rfl ?_
    show Steps p.tables e below (T6.setTop (mkF m 25 #[.val (.int (-101 : Int32)), .val (.ref w_n10), .val (.int (11 : Int32)), .val (.int (1 : Int32)), .val (.ref w_n1)] [(.int (-101 : Int32)), (.int (-2 : Int32))])) _
    refine XS.icmpYes X6.here hx rfl (pc0 := 25) (pc' := 34) rfl (hb hby d2_25) rfl (feq ((by decide) : ¬ ((-2 : Int32) = (-101 : Int32)))).2 (by decide) (by decide) ?_
    show Steps p.tables e below (T6.setTop (mkF m 34 #[.val (.int (-101 : Int32)), .val (.ref w_n10), .val (.int (11 : Int32)), .val (.int (1 : Int32)), .val (.ref w_n1)] [])) _
    refine XS.iinc X6.here hx rfl (hb hby d2_34) rfl (l' := #[.val (.int (-101 : Int32)), .val (.ref w_n10), .val (.int (11 : Int32)), .val (.int ((1 : Int32) + (1 : Int32))), .val (.ref w_n1)]) rfl ?_
    show Steps p.tables e below (T6.setTop (mkF m 37 #[.val (.int (-101 : Int32)), .val (.ref w_n10), .val (.int (11 : Int32)), .val (.int ((1 : Int32) + (1 : Int32))), .val (.ref w_n1)] [])) _
    rw [show ((1 : Int32) + (1 : Int32)) = (2 : Int32) from by decide]
    show Steps p.tables e below (T6.setTop (mkF m 37 #[.val (.int (-101 : Int32)), .val (.ref w_n10), .val (.int (11 : Int32)), .val (.int (2 : Int32)), .val (.ref w_n1)] [])) _
    refine XS.goto X6.here hx rfl (pc0 := 37) (pc' := 9) rfl (hb hby d2_37) (by decide) (by decide) ?_
    show Steps p.tables e below (T6.setTop (mkF m 9 #[.val (.int (-101 : Int32)), .val (.ref w_n10), .val (.int (11 : Int32)), .val (.int (2 : Int32)), .val (.ref w_n1)] [])) _
    refine XS.iloadN X6.here hx rfl (hb hby d2_9) rfl ?_
    show Steps p.tables e below (T6.setTop (mkF m 10 #[.val (.int (-101 : Int32)), .val (.ref w_n10), .val (.int (11 : Int32)), .val (.int (2 : Int32)), .val (.ref w_n1)] [(.int (2 : Int32))])) _
    refine XS.iloadN X6.here hx rfl (hb hby d2_10) rfl ?_
    show Steps p.tables e below (T6.setTop (mkF m 11 #[.val (.int (-101 : Int32)), .val (.ref w_n10), .val (.int (11 : Int32)), .val (.int (2 : Int32)), .val (.ref w_n1)] [(.int (11 : Int32)), (.int (2 : Int32))])) _
    refine XS.icmpNo X6.here hx rfl (hb hby d2_11) rfl (tlt ((by decide) : (2 : Int32) < (11 : Int32))).2.1 ?_
    show Steps p.tables e below (T6.setTop (mkF m 14 #[.val (.int (-101 : Int32)), .val (.ref w_n10), .val (.int (11 : Int32)), .val (.int (2 : Int32)), .val (.ref w_n1)] [])) _
    refine XS.aloadN X6.here hx rfl (hb hby d2_14) rfl rfl ?_
    show Steps p.tables e below (T6.setTop (mkF m 15 #[.val (.int (-101 : Int32)), .val (.ref w_n10), .val (.int (11 : Int32)), .val (.int (2 : Int32)), .val (.ref w_n1)] [(.ref w_n10)])) _
    refine XS.iloadN X6.here hx rfl (hb hby d2_15) rfl ?_
    show Steps p.tables e below (T6.setTop (mkF m 16 #[.val (.int (-101 : Int32)), .val (.ref w_n10), .val (.int (11 : Int32)), .val (.int (2 : Int32)), .val (.ref w_n1)] [(.int (2 : Int32)), (.ref w_n10)])) _
    refine X6.aaload hx (j := (2 : Int32)) (v := (.ref w_n2)) (by rw [e6]; exact Ar7.1) (State.isArrayOf_alike hZ.alike Ar7.2.1) rfl Ar7.2.2 hin7 hat7 (g := (mkF m 16 #[.val (.int (-101 : Int32)), .val (.ref w_n10), .val (.int (11 : Int32)), .val (.int (2 : Int32)), .val (.ref w_n1)] [(.int (2 : Int32)), (.ref w_n10)])) rfl rfl (hb hby d2_16) _ ?_
    show Steps p.tables e below (T6.setTop (mkF m 17 #[.val (.int (-101 : Int32)), .val (.ref w_n10), .val (.int (11 : Int32)), .val (.int (2 : Int32)), .val (.ref w_n1)] [(.ref w_n2)])) _
    refine XS.astore X6.here hx rfl (hb hby d2_17) rfl rfl (l' := #[.val (.int (-101 : Int32)), .val (.ref w_n10), .val (.int (11 : Int32)), .val (.int (2 : Int32)), .val (.ref w_n2)]) rfl ?_
    show Steps p.tables e below (T6.setTop (mkF m 19 #[.val (.int (-101 : Int32)), .val (.ref w_n10), .val (.int (11 : Int32)), .val (.int (2 : Int32)), .val (.ref w_n2)] [])) _
    refine XS.aload X6.here hx rfl (hb hby d2_19) rfl rfl ?_
    show Steps p.tables e below (T6.setTop (mkF m 21 #[.val (.int (-101 : Int32)), .val (.ref w_n10), .val (.int (11 : Int32)), .val (.int (2 : Int32)), .val (.ref w_n2)] [(.ref w_n2)])) _
    refine st8 _ ?_
    show Steps p.tables e below (T8.setTop (mkF m 24 #[.val (.int (-101 : Int32)), .val (.ref w_n10), .val (.int (11 : Int32)), .val (.int (2 : Int32)), .val (.ref w_n2)] [(.int (-5 : Int32))])) _
    refine XS.iloadN X8.here hx rfl (hb hby d2_24) rfl ?_
    show Steps p.tables e below (T8.setTop (mkF m 25 #[.val (.int (-101 : Int32)), .val (.ref w_n10), .val (.int (11 : Int32)), .val (.int (2 : Int32)), .val (.ref w_n2)] [(.int (-101 : Int32)), (.int (-5 : Int32))])) _
    refine XS.icmpYes X8.here hx rfl (pc0 := 25) (pc' := 34) rfl (hb hby d2_25) rfl (feq ((by decide) : ¬ ((-5 : Int32) = (-101 : Int32)))).2 (by decide) (by decide) ?_
    show Steps p.tables e below (T8.setTop (mkF m 34 #[.val (.int (-101 : Int32)), .val (.ref w_n10), .val (.int (11 : Int32)), .val (.int (2 : Int32)), .val (.ref w_n2)] [])) _
    refine XS.iinc X8.here hx rfl (hb hby d2_34) rfl (l' := #[.val (.int (-101 : Int32)), .val (.ref w_n10), .val (.int (11 : Int32)), .val (.int ((2 : Int32) + (1 : Int32))), .val (.ref w_n2)]) rfl ?_
    show Steps p.tables e below (T8.setTop (mkF m 37 #[.val (.int (-101 : Int32)), .val (.ref w_n10), .val (.int (11 : Int32)), .val (.int ((2 : Int32) + (1 : Int32))), .val (.ref w_n2)] [])) _
    rw [show ((2 : Int32) + (1 : Int32)) = (3 : Int32) from by decide]
    show Steps p.tables e below (T8.setTop (mkF m 37 #[.val (.int (-101 : Int32)), .val (.ref w_n10), .val (.int (11 : Int32)), .val (.int (3 : Int32)), .val (.ref w_n2)] [])) _
    refine XS.goto X8.here hx rfl (pc0 := 37) (pc' := 9) rfl (hb hby d2_37) (by decide) (by decide) ?_
    show Steps p.tables e below (T8.setTop (mkF m 9 #[.val (.int (-101 : Int32)), .val (.ref w_n10), .val (.int (11 : Int32)), .val (.int (3 : Int32)), .val (.ref w_n2)] [])) _
    refine XS.iloadN X8.here hx rfl (hb hby d2_9) rfl ?_
    show Steps p.tables e below (T8.setTop (mkF m 10 #[.val (.int (-101 : Int32)), .val (.ref w_n10), .val (.int (11 : Int32)), .val (.int (3 : Int32)), .val (.ref w_n2)] [(.int (3 : Int32))])) _
    refine XS.iloadN X8.here hx rfl (hb hby d2_10) rfl ?_
    show Steps p.tables e below (T8.setTop (mkF m 11 #[.val (.int (-101 : Int32)), .val (.ref w_n10), .val (.int (11 : Int32)), .val (.int (3 : Int32)), .val (.ref w_n2)] [(.int (11 : Int32)), (.int (3 : Int32))])) _
    refine XS.icmpNo X8.here hx rfl (hb hby d2_11) rfl (tlt ((by decide) : (3 : Int32) < (11 : Int32))).2.1 ?_
    show Steps p.tables e below (T8.setTop (mkF m 14 #[.val (.int (-101 : Int32)), .val (.ref w_n10), .val (.int (11 : Int32)), .val (.int (3 : Int32)), .val (.ref w_n2)] [])) _
    refine XS.aloadN X8.here hx rfl (hb hby d2_14) rfl rfl ?_
    show Steps p.tables e below (T8.setTop (mkF m 15 #[.val (.int (-101 : Int32)), .val (.ref w_n10), .val (.int (11 : Int32)), .val (.int (3 : Int32)), .val (.ref w_n2)] [(.ref w_n10)])) _
    refine XS.iloadN X8.here hx rfl (hb hby d2_15) rfl ?_
    show Steps p.tables e below (T8.setTop (mkF m 16 #[.val (.int (-101 : Int32)), .val (.ref w_n10), .val (.int (11 : Int32)), .val (.int (3 : Int32)), .val (.ref w_n2)] [(.int (3 : Int32)), (.ref w_n10)])) _
    refine X8.aaload hx (j := (3 : Int32)) (v := (.ref w_n5)) (by rw [e8]; exact Ar9.1) (State.isArrayOf_alike hZ.alike Ar9.2.1) rfl Ar9.2.2 hin9 hat9 (g := (mkF m 16 #[.val (.int (-101 : Int32)), .val (.ref w_n10), .val (.int (11 : Int32)), .val (.int (3 : Int32)), .val (.ref w_n2)] [(.int (3 : Int32)), (.ref w_n10)])) rfl rfl (hb hby d2_16) _ ?_
    show Steps p.tables e below (T8.setTop (mkF m 17 #[.val (.int (-101 : Int32)), .val (.ref w_n10), .val (.int (11 : Int32)), .val (.int (3 : Int32)), .val (.ref w_n2)] [(.ref w_n5)])) _
    refine XS.astore X8.here hx rfl (hb hby d2_17) rfl rfl (l' := #[.val (.int (-101 : Int32)), .val (.ref w_n10), .val (.int (11 : Int32)), .val (.int (3 : Int32)), .val (.ref w_n5)]) rfl ?_
    show Steps p.tables e below (T8.setTop (mkF m 19 #[.val (.int (-101 : Int32)), .val (.ref w_n10), .val (.int (11 : Int32)), .val (.int (3 : Int32)), .val (.ref w_n5)] [])) _
    refine XS.aload X8.here hx rfl (hb hby d2_19) rfl rfl ?_
    show Steps p.tables e below (T8.setTop (mkF m 21 #[.val (.int (-101 : Int32)), .val (.ref w_n10), .val (.int (11 : Int32)), .val (.int (3 : Int32)), .val (.ref w_n5)] [(.ref w_n5)])) _
    refine st10 _ ?_
    show Steps p.tables e below (T10.setTop (mkF m 24 #[.val (.int (-101 : Int32)), .val (.ref w_n10), .val (.int (11 : Int32)), .val (.int (3 : Int32)), .val (.ref w_n5)] [(.int (-6 : Int32))])) _
    refine XS.iloadN X10.here hx rfl (hb hby d2_24) rfl ?_
    show Steps p.tables e below (T10.setTop (mkF m 25 #[.val (.int (-101 : Int32)), .val (.ref w_n10), .val (.int (11 : Int32)), .val (.int (3 : Int32)), .val (.ref w_n5)] [(.int (-101 : Int32)), (.int (-6 : Int32))])) _
    refine XS.icmpYes X10.here hx rfl (pc0 := 25) (pc' := 34) rfl (hb hby d2_25) rfl (feq ((by decide) : ¬ ((-6 : Int32) = (-101 : Int32)))).2 (by decide) (by decide) ?_
    show Steps p.tables e below (T10.setTop (mkF m 34 #[.val (.int (-101 : Int32)), .val (.ref w_n10), .val (.int (11 : Int32)), .val (.int (3 : Int32)), .val (.ref w_n5)] [])) _
    refine XS.iinc X10.here hx rfl (hb hby d2_34) rfl (l' := #[.val (.int (-101 : Int32)), .val (.ref w_n10), .val (.int (11 : Int32)), .val (.int ((3 : Int32) + (1 : Int32))), .val (.ref w_n5)]) rfl ?_
    show Steps p.tables e below (T10.setTop (mkF m 37 #[.val (.int (-101 : Int32)), .val (.ref w_n10), .val (.int (11 : Int32)), .val (.int ((3 : Int32) + (1 : Int32))), .val (.ref w_n5)] [])) _
    rw [show ((3 : Int32) + (1 : Int32)) = (4 : Int32) from by decide]
    show Steps p.tables e below (T10.setTop (mkF m 37 #[.val (.int (-101 : Int32)), .val (.ref w_n10), .val (.int (11 : Int32)), .val (.int (4 : Int32)), .val (.ref w_n5)] [])) _
    refine XS.goto X10.here hx rfl (pc0 := 37) (pc' := 9) rfl (hb hby d2_37) (by decide) (by decide) ?_
    show Steps p.tables e below (T10.setTop (mkF m 9 #[.val (.int (-101 : Int32)), .val (.ref w_n10), .val (.int (11 : Int32)), .val (.int (4 : Int32)), .val (.ref w_n5)] [])) _
    refine XS.iloadN X10.here hx rfl (hb hby d2_9) rfl ?_
    show Steps p.tables e below (T10.setTop (mkF m 10 #[.val (.int (-101 : Int32)), .val (.ref w_n10), .val (.int (11 : Int32)), .val (.int (4 : Int32)), .val (.ref w_n5)] [(.int (4 : Int32))])) _
    refine XS.iloadN X10.here hx rfl (hb hby d2_10) rfl ?_
    show Steps p.tables e below (T10.setTop (mkF m 11 #[.val (.int (-101 : Int32)), .val (.ref w_n10), .val (.int (11 : Int32)), .val (.int (4 : Int32)), .val (.ref w_n5)] [(.int (11 : Int32)), (.int (4 : Int32))])) _
    refine XS.icmpNo X10.here hx rfl (hb hby d2_11) rfl (tlt ((by decide) : (4 : Int32) < (11 : Int32))).2.1 ?_
    show Steps p.tables e below (T10.setTop (mkF m 14 #[.val (.int (-101 : Int32)), .val (.ref w_n10), .val (.int (11 : Int32)), .val (.int (4 : Int32)), .val (.ref w_n5)] [])) _
    refine XS.aloadN X10.here hx rfl (hb hby d2_14) rfl rfl ?_
    show Steps p.tables e below (T10.setTop (mkF m 15 #[.val (.int (-101 : Int32)), .val (.ref w_n10), .val (.int (11 : Int32)), .val (.int (4 : Int32)), .val (.ref w_n5)] [(.ref w_n10)])) _
    refine XS.iloadN X10.here hx rfl (hb hby d2_15) rfl ?_
    show Steps p.tables e below (T10.setTop (mkF m 16 #[.val (.int (-101 : Int32)), .val (.ref w_n10), .val (.int (11 : Int32)), .val (.int (4 : Int32)), .val (.ref w_n5)] [(.int (4 : Int32)), (.ref w_n10)])) _
    refine X10.aaload hx (j := (4 : Int32)) (v := (.ref w_n4)) (by rw [e10]; exact Ar11.1) (State.isArrayOf_alike hZ.alike Ar11.2.1) rfl Ar11.2.2 hin11 hat11 (g := (mkF m 16 #[.val (.int (-101 : Int32)), .val (.ref w_n10), .val (.int (11 : Int32)), .val (.int (4 : Int32)), .val (.ref w_n5)] [(.int (4 : Int32)), (.ref w_n10)])) rfl rfl (hb hby d2_16) _ ?_
    show Steps p.tables e below (T10.setTop (mkF m 17 #[.val (.int (-101 : Int32)), .val (.ref w_n10), .val (.int (11 : Int32)), .val (.int (4 : Int32)), .val (.ref w_n5)] [(.ref w_n4)])) _
    refine XS.astore X10.here hx rfl (hb hby d2_17) rfl rfl (l' := #[.val (.int (-101 : Int32)), .val (.ref w_n10), .val (.int (11 : Int32)), .val (.int (4 : Int32)), .val (.ref w_n4)]) rfl ?_
    show Steps p.tables e below (T10.setTop (mkF m 19 #[.val (.int (-101 : Int32)), .val (.ref w_n10), .val (.int (11 : Int32)), .val (.int (4 : Int32)), .val (.ref w_n4)] [])) _
    refine XS.aload X10.here hx rfl (hb hby d2_19) rfl rfl ?_
    show Steps p.tables e below (T10.setTop (mkF m 21 #[.val (.int (-101 : Int32)), .val (.ref w_n10), .val (.int (11 : Int32)), .val (.int (4 : Int32)), .val (.ref w_n4)] [(.ref w_n4)])) _
    refine st12 _ ?_
    show Steps p.tables e below (T12.setTop (mkF m 24 #[.val (.int (-101 : Int32)), .val (.ref w_n10), .val (.int (11 : Int32)), .val (.int (4 : Int32)), .val (.ref w_n4)] [(.int (-8 : Int32))])) _
    refine XS.iloadN X12.here hx rfl (hb hby d2_24) rfl ?_
    show Steps p.tables e below (T12.setTop (mkF m 25 #[.val (.int (-101 : Int32)), .val (.ref w_n10), .val (.int (11 : Int32)), .val (.int (4 : Int32)), .val (.ref w_n4)] [(.int (-101 : Int32)), (.int (-8 : Int32))])) _
    refine XS.icmpYes X12.here hx rfl (pc0 := 25) (pc' := 34) rfl (hb hby d2_25) rfl (feq ((by decide) : ¬ ((-8 : Int32) = (-101 : Int32)))).2 (by decide) (by decide) ?_
    show Steps p.tables e below (T12.setTop (mkF m 34 #[.val (.int (-101 : Int32)), .val (.ref w_n10), .val (.int (11 : Int32)), .val (.int (4 : Int32)), .val (.ref w_n4)] [])) _
    refine XS.iinc X12.here hx rfl (hb hby d2_34) rfl (l' := #[.val (.int (-101 : Int32)), .val (.ref w_n10), .val (.int (11 : Int32)), .val (.int ((4 : Int32) + (1 : Int32))), .val (.ref w_n4)]) rfl ?_
    show Steps p.tables e below (T12.setTop (mkF m 37 #[.val (.int (-101 : Int32)), .val (.ref w_n10), .val (.int (11 : Int32)), .val (.int ((4 : Int32) + (1 : Int32))), .val (.ref w_n4)] [])) _
    rw [show ((4 : Int32) + (1 : Int32)) = (5 : Int32) from by decide]
    show Steps p.tables e below (T12.setTop (mkF m 37 #[.val (.int (-101 : Int32)), .val (.ref w_n10), .val (.int (11 : Int32)), .val (.int (5 : Int32)), .val (.ref w_n4)] [])) _
    refine XS.goto X12.here hx rfl (pc0 := 37) (pc' := 9) rfl (hb hby d2_37) (by decide) (by decide) ?_
    show Steps p.tables e below (T12.setTop (mkF m 9 #[.val (.int (-101 : Int32)), .val (.ref w_n10), .val (.int (11 : Int32)), .val (.int (5 : Int32)), .val (.ref w_n4)] [])) _
    refine XS.iloadN X12.here hx rfl (hb hby d2_9) rfl ?_
    show Steps p.tables e below (T12.setTop (mkF m 10 #[.val (.int (-101 : Int32)), .val (.ref w_n10), .val (.int (11 : Int32)), .val (.int (5 : Int32)), .val (.ref w_n4)] [(.int (5 : Int32))])) _
    refine XS.iloadN X12.here hx rfl (hb hby d2_10) rfl ?_
    show Steps p.tables e below (T12.setTop (mkF m 11 #[.val (.int (-101 : Int32)), .val (.ref w_n10), .val (.int (11 : Int32)), .val (.int (5 : Int32)), .val (.ref w_n4)] [(.int (11 : Int32)), (.int (5 : Int32))])) _
    refine XS.icmpNo X12.here hx rfl (hb hby d2_11) rfl (tlt ((by decide) : (5 : Int32) < (11 : Int32))).2.1 ?_
    show Steps p.tables e below (T12.setTop (mkF m 14 #[.val (.int (-101 : Int32)), .val (.ref w_n10), .val (.int (11 : Int32)), .val (.int (5 : Int32)), .val (.ref w_n4)] [])) _
    refine XS.aloadN X12.here hx rfl (hb hby d2_14) rfl rfl ?_
    show Steps p.tables e below (T12.setTop (mkF m 15 #[.val (.int (-101 : Int32)), .val (.ref w_n10), .val (.int (11 : Int32)), .val (.int (5 : Int32)), .val (.ref w_n4)] [(.ref w_n10)])) _
    refine XS.iloadN X12.here hx rfl (hb hby d2_15) rfl ?_
    show Steps p.tables e below (T12.setTop (mkF m 16 #[.val (.int (-101 : Int32)), .val (.ref w_n10), .val (.int (11 : Int32)), .val (.int (5 : Int32)), .val (.ref w_n4)] [(.int (5 : Int32)), (.ref w_n10)])) _
    refine X12.aaload hx (j := (5 : Int32)) (v := (.ref w_n9)) (by rw [e12]; exact Ar13.1) (State.isArrayOf_alike hZ.alike Ar13.2.1) rfl Ar13.2.2 hin13 hat13 (g := (mkF m 16 #[.val (.int (-101 : Int32)), .val (.ref w_n10), .val (.int (11 : Int32)), .val (.int (5 : Int32)), .val (.ref w_n4)] [(.int (5 : Int32)), (.ref w_n10)])) rfl rfl (hb hby d2_16) _ ?_
    show Steps p.tables e below (T12.setTop (mkF m 17 #[.val (.int (-101 : Int32)), .val (.ref w_n10), .val (.int (11 : Int32)), .val (.int (5 : Int32)), .val (.ref w_n4)] [(.ref w_n9)])) _
    refine XS.astore X12.here hx rfl (hb hby d2_17) rfl rfl (l' := #[.val (.int (-101 : Int32)), .val (.ref w_n10), .val (.int (11 : Int32)), .val (.int (5 : Int32)), .val (.ref w_n9)]) rfl ?_
    show Steps p.tables e below (T12.setTop (mkF m 19 #[.val (.int (-101 : Int32)), .val (.ref w_n10), .val (.int (11 : Int32)), .val (.int (5 : Int32)), .val (.ref w_n9)] [])) _
    refine XS.aload X12.here hx rfl (hb hby d2_19) rfl rfl ?_
    show Steps p.tables e below (T12.setTop (mkF m 21 #[.val (.int (-101 : Int32)), .val (.ref w_n10), .val (.int (11 : Int32)), .val (.int (5 : Int32)), .val (.ref w_n9)] [(.ref w_n9)])) _
    refine st14 _ ?_
    show Steps p.tables e below (T14.setTop (mkF m 24 #[.val (.int (-101 : Int32)), .val (.ref w_n10), .val (.int (11 : Int32)), .val (.int (5 : Int32)), .val (.ref w_n9)] [(.int (-101 : Int32))])) _
    refine XS.iloadN X14.here hx rfl (hb hby d2_24) rfl ?_
    show Steps p.tables e below (T14.setTop (mkF m 25 #[.val (.int (-101 : Int32)), .val (.ref w_n10), .val (.int (11 : Int32)), .val (.int (5 : Int32)), .val (.ref w_n9)] [(.int (-101 : Int32)), (.int (-101 : Int32))])) _
    refine XS.icmpNo X14.here hx rfl (hb hby d2_25) rfl (teq ((by decide) : (-101 : Int32) = (-101 : Int32))).2 ?_
    show Steps p.tables e below (T14.setTop (mkF m 28 #[.val (.int (-101 : Int32)), .val (.ref w_n10), .val (.int (11 : Int32)), .val (.int (5 : Int32)), .val (.ref w_n9)] [])) _
    refine XS.aload X14.here hx rfl (hb hby d2_28) rfl rfl ?_
    show Steps p.tables e below (T14.setTop (mkF m 30 #[.val (.int (-101 : Int32)), .val (.ref w_n10), .val (.int (11 : Int32)), .val (.int (5 : Int32)), .val (.ref w_n9)] [(.ref w_n9)])) _
    refine st15 _ ?_
    show Steps p.tables e below (T15.setTop (mkF m 33 #[.val (.int (-101 : Int32)), .val (.ref w_n10), .val (.int (11 : Int32)), .val (.int (5 : Int32)), .val (.ref w_n9)] [(.ref b15_b1)])) _
    jvm_step X15.here [X15.here.top, hx, (hb hby d2_33), X15.method', Bd.returns, Value.isRef, FieldType.isReference]
    first | (intro acts; rw [hr _ acts rfl rfl rfl]) | rw [hr _ _ rfl rfl rfl]
    exact Steps.refl _
  · show QW (fun v h => ∃ b15_b1 : Addr, v = some (.ref b15_b1) ∧ Keep h0 h [] ∧ n0 ≤ b15_b1 ∧ h0.size ≤ b15_b1 ∧ Exa Z h b15_b1 "java/util/Optional" ∧ Fld Z h b15_b1 "java/util/Optional" "value" "Ljava/lang/Object;" (.ref w_n9)) n0 _ T15.heap _
    exact ⟨N15, ⟨b15_b1, rfl, K15, g_b15_b1, sz_b15_b1, fp15_0, fp15_1⟩⟩
theorem d8_48 : decode method_2_code 48 = .ok (.iload_n 0, 1) := by decide +kernel
theorem d8_49 : decode method_2_code 49 = .ok (.bipush (-101), 2) := by decide +kernel
theorem d8_51 : decode method_2_code 51 = .ok (.if_icmp .ne 7, 3) := by decide +kernel
theorem d8_54 : decode method_2_code 54 = .ok (.getstatic 25, 3) := by decide +kernel
theorem d8_57 : decode method_2_code 57 = .ok (.areturn, 1) := by decide +kernel
set_option maxRecDepth 65536 in
set_option maxHeartbeats 40000000 in
theorem rm_ex5 (l : Launch) (Z : State) (a0 : Array Value) (hw : ∀ d ∈ tables_1, d.before a0 Z = true) (ws : List Jvm.Cond) {w_n5 : Addr} {w_n10 : Addr} {w_OK : Addr} {w_n1 : Addr} {w_n2 : Addr} {w_n4 : Addr} {w_n9 : Addr} {w_n6 : Addr} {w_n0 : Addr} {w_n7 : Addr} {w_n8 : Addr} {w_n3 : Addr} {w_n11 : Addr} {k_n10 : ClassId} (W : Wd Z w_n5 w_n10 w_OK w_n1 w_n2 w_n4 w_n9 w_n6 w_n0 w_n7 w_n8 w_n3 w_n11 k_n10) (h0 : Heap) (n0 : Nat) (O0 : Old Z n0 h0) :
    MetFree l (⟨"com/example/usher/usher/wire/ErrorCodeForCodePinLaw", "expected", "(I)Lcom/example/usher/usher/wire/ErrorCode;"⟩ : MethodName) (head1 (Jvm.Cond.code (⟨"com/example/usher/usher/wire/ErrorCodeForCodePinLaw", "expected", "(I)Lcom/example/usher/usher/wire/ErrorCode;"⟩ : MethodName) method_2_code 1 (some (.object "com/example/usher/usher/wire/ErrorCode")) :: ws) ({ frames := 0, cells := 0, slots := 0, locals := 0 } : Room)) (fun a U => a = #[(.int (-101 : Int32))] ∧ Z.Warmed39 U.vm ∧ U.heap = h0) (fun _ _ _ _ _ => True) (fun _ U o U' => ∃ v L, o = .returned v ∧ QP (some (.ref w_n9)) h0 n0 v U'.heap L ∧ FrameEnd U o U' L ({ frames := 0, cells := 0, slots := 0, locals := 0 } : Room).cells ({ frames := 0, cells := 0, slots := 0, locals := 0 } : Room).slots) := by
  have W' := W; obtain ⟨S_n5, E_n5, S_n10, S_OK, E_OK, S_n1, E_n1, S_n2, E_n2, S_n4, E_n4, S_n9, E_n9, S_n6, E_n6, S_n0, E_n0, S_n7, E_n7, S_n8, E_n8, S_n3, E_n3, S_n11, E_n11, F_OK_code, F_n5_code, F_n1_code, F_n2_code, F_n4_code, F_n9_code, F_n6_code, F_n0_code, F_n7_code, F_n8_code, F_n3_code, F_n11_value, V_n10⟩ := W'
  refine MetFree.of_bodySF (plainFor_of_name pn_8) hisR ?_
  intro p e s m args below meth c s₁ Bd hml0 hP hK
  obtain ⟨rfl, hZ, hh⟩ := hP
  have hx := Bd.exec
  have hby := Bd.bytes
  have hml : c.maxLocals = 1 := hml0
  have hown : s.vm.findClass "com/example/usher/usher/wire/ErrorCodeForCodePinLaw" = some m.cls := findClass_of_methodNamed Bd.named
  have hnm := (name_of_methodNamed Bd.named Bd.method).1
  have X0 : Stand p l e ({ frames := 0, cells := 0, slots := 0, locals := 0 } : Room) s m #[(.int (-101 : Int32))] below meth c s₁ [] 0 0 := Stand.of_body Bd
  have e0 : s₁.heap = h0 := by rw [← hh, Bd.state]; rfl
  have N0 := Fr.nil n0
  have pre0 : ∀ t, Steps p.tables e below (s₁.setTop (mkF m 0 #[.val (.int (-101 : Int32))] [])) t → Steps p.tables e below (s₁.setTop (entryFrame m #[(.int (-101 : Int32))] 1)) t := fun t k => castTop (ef_8_5 m (-101 : Int32)) k
  obtain ⟨T1, X1, e1, st1⟩ := getS2 X0 hx hZ hown (host := "") (Or.inl (hw _ (List.mem_of_getElem? (i := 69) rfl))) Via.refl e0 (S_n9.ext O0.2) (g := (mkF m 54 #[.val (.int (-101 : Int32))] [])) rfl (hb hby d8_54)
  obtain ⟨fs, hr, hrun, hended, hW, hsame⟩ := X1.leave (v := some (.ref w_n9)) (fun h => by rw [Bd.returns] at h; cases h)
  refine ⟨_, _, pre0 _ ?_, hrun, hended, _, _, rfl, ?_, ⟨_, rfl⟩, hW, hsame.mono (by decide) (by decide)⟩
  · show Steps p.tables e below (s₁.setTop (mkF m 0 #[.val (.int (-101 : Int32))] [])) _
    refine XS.iloadN X0.here hx rfl (hb hby d8_0) rfl ?_
    show Steps p.tables e below (s₁.setTop (mkF m 1 #[.val (.int (-101 : Int32))] [(.int (-101 : Int32))])) _
    refine XS.ifYes X0.here hx rfl (pc0 := 1) (pc' := 8) rfl (hb hby d8_1) rfl ((if0 _ _).trans (feq ((by decide) : ¬ ((-101 : Int32) = (0 : Int32)))).2) (by decide) (by decide) ?_
    show Steps p.tables e below (s₁.setTop (mkF m 8 #[.val (.int (-101 : Int32))] [])) _
    refine XS.iloadN X0.here hx rfl (hb hby d8_8) rfl ?_
    show Steps p.tables e below (s₁.setTop (mkF m 9 #[.val (.int (-101 : Int32))] [(.int (-101 : Int32))])) _
    refine XS.bipush X0.here hx rfl (hb hby d8_9) ?_
    show Steps p.tables e below (s₁.setTop (mkF m 11 #[.val (.int (-101 : Int32))] [(.int (-2 : Int32)), (.int (-101 : Int32))])) _
    refine XS.icmpYes X0.here hx rfl (pc0 := 11) (pc' := 18) rfl (hb hby d8_11) rfl (feq ((by decide) : ¬ ((-101 : Int32) = (-2 : Int32)))).2 (by decide) (by decide) ?_
    show Steps p.tables e below (s₁.setTop (mkF m 18 #[.val (.int (-101 : Int32))] [])) _
    refine XS.iloadN X0.here hx rfl (hb hby d8_18) rfl ?_
    show Steps p.tables e below (s₁.setTop (mkF m 19 #[.val (.int (-101 : Int32))] [(.int (-101 : Int32))])) _
    refine XS.bipush X0.here hx rfl (hb hby d8_19) ?_
    show Steps p.tables e below (s₁.setTop (mkF m 21 #[.val (.int (-101 : Int32))] [(.int (-5 : Int32)), (.int (-101 : Int32))])) _
    refine XS.icmpYes X0.here hx rfl (pc0 := 21) (pc' := 28) rfl (hb hby d8_21) rfl (feq ((by decide) : ¬ ((-101 : Int32) = (-5 : Int32)))).2 (by decide) (by decide) ?_
    show Steps p.tables e below (s₁.setTop (mkF m 28 #[.val (.int (-101 : Int32))] [])) _
    refine XS.iloadN X0.here hx rfl (hb hby d8_28) rfl ?_
    show Steps p.tables e below (s₁.setTop (mkF m 29 #[.val (.int (-101 : Int32))] [(.int (-101 : Int32))])) _
    refine XS.bipush X0.here hx rfl (hb hby d8_29) ?_
    show Steps p.tables e below (s₁.setTop (mkF m 31 #[.val (.int (-101 : Int32))] [(.int (-6 : Int32)), (.int (-101 : Int32))])) _
    refine XS.icmpYes X0.here hx rfl (pc0 := 31) (pc' := 38) rfl (hb hby d8_31) rfl (feq ((by decide) : ¬ ((-101 : Int32) = (-6 : Int32)))).2 (by decide) (by decide) ?_
    show Steps p.tables e below (s₁.setTop (mkF m 38 #[.val (.int (-101 : Int32))] [])) _
    refine XS.iloadN X0.here hx rfl (hb hby d8_38) rfl ?_
    show Steps p.tables e below (s₁.setTop (mkF m 39 #[.val (.int (-101 : Int32))] [(.int (-101 : Int32))])) _
    refine XS.bipush X0.here hx rfl (hb hby d8_39) ?_
    show Steps p.tables e below (s₁.setTop (mkF m 41 #[.val (.int (-101 : Int32))] [(.int (-8 : Int32)), (.int (-101 : Int32))])) _
    refine XS.icmpYes X0.here hx rfl (pc0 := 41) (pc' := 48) rfl (hb hby d8_41) rfl (feq ((by decide) : ¬ ((-101 : Int32) = (-8 : Int32)))).2 (by decide) (by decide) ?_
    show Steps p.tables e below (s₁.setTop (mkF m 48 #[.val (.int (-101 : Int32))] [])) _
    refine XS.iloadN X0.here hx rfl (hb hby d8_48) rfl ?_
    show Steps p.tables e below (s₁.setTop (mkF m 49 #[.val (.int (-101 : Int32))] [(.int (-101 : Int32))])) _
    refine XS.bipush X0.here hx rfl (hb hby d8_49) ?_
    show Steps p.tables e below (s₁.setTop (mkF m 51 #[.val (.int (-101 : Int32))] [(.int (-101 : Int32)), (.int (-101 : Int32))])) _
    refine XS.icmpNo X0.here hx rfl (hb hby d8_51) rfl (teq ((by decide) : (-101 : Int32) = (-101 : Int32))).2 ?_
    show Steps p.tables e below (s₁.setTop (mkF m 54 #[.val (.int (-101 : Int32))] [])) _
    refine st1 _ ?_
    show Steps p.tables e below (T1.setTop (mkF m 57 #[.val (.int (-101 : Int32))] [(.ref w_n9)])) _
    jvm_step X1.here [X1.here.top, hx, (hb hby d8_57), X1.method', Bd.returns, Value.isRef, FieldType.isReference]
    first | (intro acts; rw [hr _ acts rfl rfl rfl]) | rw [hr _ _ rfl rfl rfl]
    exact Steps.refl _
  · show QP (some (.ref w_n9)) h0 n0 _ T1.heap _
    rw [e1]
    exact ⟨rfl, N0, rfl⟩
theorem d1_44 : decode method_3_code 44 = .ok (.iload_n 0, 1) := by decide +kernel
theorem d1_45 : decode method_3_code 45 = .ok (.iconst 5, 1) := by decide +kernel
theorem d1_46 : decode method_3_code 46 = .ok (.if_icmp .ne 7, 3) := by decide +kernel
theorem d1_49 : decode method_3_code 49 = .ok (.getstatic 25, 3) := by decide +kernel
theorem d1_52 : decode method_3_code 52 = .ok (.areturn, 1) := by decide +kernel
set_option maxRecDepth 65536 in
set_option maxHeartbeats 40000000 in
theorem rm_pk5 (l : Launch) (Z : State) (a0 : Array Value) (hw : ∀ d ∈ tables_1, d.before a0 Z = true) (ws : List Jvm.Cond) {w_n5 : Addr} {w_n10 : Addr} {w_OK : Addr} {w_n1 : Addr} {w_n2 : Addr} {w_n4 : Addr} {w_n9 : Addr} {w_n6 : Addr} {w_n0 : Addr} {w_n7 : Addr} {w_n8 : Addr} {w_n3 : Addr} {w_n11 : Addr} {k_n10 : ClassId} (W : Wd Z w_n5 w_n10 w_OK w_n1 w_n2 w_n4 w_n9 w_n6 w_n0 w_n7 w_n8 w_n3 w_n11 k_n10) (h0 : Heap) (n0 : Nat) (O0 : Old Z n0 h0) :
    MetFree l (⟨"com/example/usher/usher/wire/ErrorCodeForCodePinLaw", "pick", "(I)Lcom/example/usher/usher/wire/ErrorCode;"⟩ : MethodName) (head1 (Jvm.Cond.code (⟨"com/example/usher/usher/wire/ErrorCodeForCodePinLaw", "pick", "(I)Lcom/example/usher/usher/wire/ErrorCode;"⟩ : MethodName) method_3_code 1 (some (.object "com/example/usher/usher/wire/ErrorCode")) :: ws) ({ frames := 0, cells := 0, slots := 0, locals := 0 } : Room)) (fun a U => a = #[(.int (5 : Int32))] ∧ Z.Warmed39 U.vm ∧ U.heap = h0) (fun _ _ _ _ _ => True) (fun _ U o U' => ∃ v L, o = .returned v ∧ QP (some (.ref w_n9)) h0 n0 v U'.heap L ∧ FrameEnd U o U' L ({ frames := 0, cells := 0, slots := 0, locals := 0 } : Room).cells ({ frames := 0, cells := 0, slots := 0, locals := 0 } : Room).slots) := by
  have W' := W; obtain ⟨S_n5, E_n5, S_n10, S_OK, E_OK, S_n1, E_n1, S_n2, E_n2, S_n4, E_n4, S_n9, E_n9, S_n6, E_n6, S_n0, E_n0, S_n7, E_n7, S_n8, E_n8, S_n3, E_n3, S_n11, E_n11, F_OK_code, F_n5_code, F_n1_code, F_n2_code, F_n4_code, F_n9_code, F_n6_code, F_n0_code, F_n7_code, F_n8_code, F_n3_code, F_n11_value, V_n10⟩ := W'
  refine MetFree.of_bodySF (plainFor_of_name pn_1) hisR ?_
  intro p e s m args below meth c s₁ Bd hml0 hP hK
  obtain ⟨rfl, hZ, hh⟩ := hP
  have hx := Bd.exec
  have hby := Bd.bytes
  have hml : c.maxLocals = 1 := hml0
  have hown : s.vm.findClass "com/example/usher/usher/wire/ErrorCodeForCodePinLaw" = some m.cls := findClass_of_methodNamed Bd.named
  have hnm := (name_of_methodNamed Bd.named Bd.method).1
  have X0 : Stand p l e ({ frames := 0, cells := 0, slots := 0, locals := 0 } : Room) s m #[(.int (5 : Int32))] below meth c s₁ [] 0 0 := Stand.of_body Bd
  have e0 : s₁.heap = h0 := by rw [← hh, Bd.state]; rfl
  have N0 := Fr.nil n0
  have pre0 : ∀ t, Steps p.tables e below (s₁.setTop (mkF m 0 #[.val (.int (5 : Int32))] [])) t → Steps p.tables e below (s₁.setTop (entryFrame m #[(.int (5 : Int32))] 1)) t := fun t k => castTop (ef_1_6 m (5 : Int32)) k
  obtain ⟨T1, X1, e1, st1⟩ := getS2 X0 hx hZ hown (host := "") (Or.inl (hw _ (List.mem_of_getElem? (i := 69) rfl))) Via.refl e0 (S_n9.ext O0.2) (g := (mkF m 49 #[.val (.int (5 : Int32))] [])) rfl (hb hby d1_49)
  obtain ⟨fs, hr, hrun, hended, hW, hsame⟩ := X1.leave (v := some (.ref w_n9)) (fun h => by rw [Bd.returns] at h; cases h)
  refine ⟨_, _, pre0 _ ?_, hrun, hended, _, _, rfl, ?_, ⟨_, rfl⟩, hW, hsame.mono (by decide) (by decide)⟩
  · show Steps p.tables e below (s₁.setTop (mkF m 0 #[.val (.int (5 : Int32))] [])) _
    refine XS.iloadN X0.here hx rfl (hb hby d1_0) rfl ?_
    show Steps p.tables e below (s₁.setTop (mkF m 1 #[.val (.int (5 : Int32))] [(.int (5 : Int32))])) _
    refine XS.ifYes X0.here hx rfl (pc0 := 1) (pc' := 8) rfl (hb hby d1_1) rfl ((if0 _ _).trans (feq ((by decide) : ¬ ((5 : Int32) = (0 : Int32)))).2) (by decide) (by decide) ?_
    show Steps p.tables e below (s₁.setTop (mkF m 8 #[.val (.int (5 : Int32))] [])) _
    refine XS.iloadN X0.here hx rfl (hb hby d1_8) rfl ?_
    show Steps p.tables e below (s₁.setTop (mkF m 9 #[.val (.int (5 : Int32))] [(.int (5 : Int32))])) _
    refine XS.iconst X0.here hx rfl (hb hby d1_9) ?_
    show Steps p.tables e below (s₁.setTop (mkF m 10 #[.val (.int (5 : Int32))] [(.int (1 : Int32)), (.int (5 : Int32))])) _
    refine XS.icmpYes X0.here hx rfl (pc0 := 10) (pc' := 17) rfl (hb hby d1_10) rfl (feq ((by decide) : ¬ ((5 : Int32) = (1 : Int32)))).2 (by decide) (by decide) ?_
    show Steps p.tables e below (s₁.setTop (mkF m 17 #[.val (.int (5 : Int32))] [])) _
    refine XS.iloadN X0.here hx rfl (hb hby d1_17) rfl ?_
    show Steps p.tables e below (s₁.setTop (mkF m 18 #[.val (.int (5 : Int32))] [(.int (5 : Int32))])) _
    refine XS.iconst X0.here hx rfl (hb hby d1_18) ?_
    show Steps p.tables e below (s₁.setTop (mkF m 19 #[.val (.int (5 : Int32))] [(.int (2 : Int32)), (.int (5 : Int32))])) _
    refine XS.icmpYes X0.here hx rfl (pc0 := 19) (pc' := 26) rfl (hb hby d1_19) rfl (feq ((by decide) : ¬ ((5 : Int32) = (2 : Int32)))).2 (by decide) (by decide) ?_
    show Steps p.tables e below (s₁.setTop (mkF m 26 #[.val (.int (5 : Int32))] [])) _
    refine XS.iloadN X0.here hx rfl (hb hby d1_26) rfl ?_
    show Steps p.tables e below (s₁.setTop (mkF m 27 #[.val (.int (5 : Int32))] [(.int (5 : Int32))])) _
    refine XS.iconst X0.here hx rfl (hb hby d1_27) ?_
    show Steps p.tables e below (s₁.setTop (mkF m 28 #[.val (.int (5 : Int32))] [(.int (3 : Int32)), (.int (5 : Int32))])) _
    refine XS.icmpYes X0.here hx rfl (pc0 := 28) (pc' := 35) rfl (hb hby d1_28) rfl (feq ((by decide) : ¬ ((5 : Int32) = (3 : Int32)))).2 (by decide) (by decide) ?_
    show Steps p.tables e below (s₁.setTop (mkF m 35 #[.val (.int (5 : Int32))] [])) _
    refine XS.iloadN X0.here hx rfl (hb hby d1_35) rfl ?_
    show Steps p.tables e below (s₁.setTop (mkF m 36 #[.val (.int (5 : Int32))] [(.int (5 : Int32))])) _
    refine XS.iconst X0.here hx rfl (hb hby d1_36) ?_
    show Steps p.tables e below (s₁.setTop (mkF m 37 #[.val (.int (5 : Int32))] [(.int (4 : Int32)), (.int (5 : Int32))])) _
    refine XS.icmpYes X0.here hx rfl (pc0 := 37) (pc' := 44) rfl (hb hby d1_37) rfl (feq ((by decide) : ¬ ((5 : Int32) = (4 : Int32)))).2 (by decide) (by decide) ?_
    show Steps p.tables e below (s₁.setTop (mkF m 44 #[.val (.int (5 : Int32))] [])) _
    refine XS.iloadN X0.here hx rfl (hb hby d1_44) rfl ?_
    show Steps p.tables e below (s₁.setTop (mkF m 45 #[.val (.int (5 : Int32))] [(.int (5 : Int32))])) _
    refine XS.iconst X0.here hx rfl (hb hby d1_45) ?_
    show Steps p.tables e below (s₁.setTop (mkF m 46 #[.val (.int (5 : Int32))] [(.int (5 : Int32)), (.int (5 : Int32))])) _
    refine XS.icmpNo X0.here hx rfl (hb hby d1_46) rfl (teq ((by decide) : (5 : Int32) = (5 : Int32))).2 ?_
    show Steps p.tables e below (s₁.setTop (mkF m 49 #[.val (.int (5 : Int32))] [])) _
    refine st1 _ ?_
    show Steps p.tables e below (T1.setTop (mkF m 52 #[.val (.int (5 : Int32))] [(.ref w_n9)])) _
    jvm_step X1.here [X1.here.top, hx, (hb hby d1_52), X1.method', Bd.returns, Value.isRef, FieldType.isReference]
    first | (intro acts; rw [hr _ acts rfl rfl rfl]) | rw [hr _ _ rfl rfl rfl]
    exact Steps.refl _
  · show QP (some (.ref w_n9)) h0 n0 _ T1.heap _
    rw [e1]
    exact ⟨rfl, N0, rfl⟩
set_option maxRecDepth 65536 in
set_option maxHeartbeats 40000000 in
theorem rm_fc6 (l : Launch) (Z : State) (a0 : Array Value) (hw : ∀ d ∈ tables_1, d.before a0 Z = true) (ws : List Jvm.Cond) {w_n5 : Addr} {w_n10 : Addr} {w_OK : Addr} {w_n1 : Addr} {w_n2 : Addr} {w_n4 : Addr} {w_n9 : Addr} {w_n6 : Addr} {w_n0 : Addr} {w_n7 : Addr} {w_n8 : Addr} {w_n3 : Addr} {w_n11 : Addr} {k_n10 : ClassId} (W : Wd Z w_n5 w_n10 w_OK w_n1 w_n2 w_n4 w_n9 w_n6 w_n0 w_n7 w_n8 w_n3 w_n11 k_n10) (h0 : Heap) (n0 : Nat) (O0 : Old Z n0 h0) :
    MetFree l (⟨"com/example/usher/usher/wire/ErrorCode", "forCode", "(I)Ljava/util/Optional;"⟩ : MethodName) (head1 (Jvm.Cond.code (⟨"com/example/usher/usher/wire/ErrorCode", "forCode", "(I)Ljava/util/Optional;"⟩ : MethodName) prog_14_method_5_code 5 (some (.object "java/util/Optional")) :: ws) ({ frames := 3, cells := 1, slots := 1, locals := 38 } : Room)) (fun a U => a = #[(.int (-103 : Int32))] ∧ Z.Warmed39 U.vm ∧ U.heap = h0) (fun _ _ _ _ _ => True) (fun _ U o U' => ∃ v L, o = .returned v ∧ QW (fun v h => ∃ b17_b1 : Addr, v = some (.ref b17_b1) ∧ Keep h0 h [] ∧ n0 ≤ b17_b1 ∧ h0.size ≤ b17_b1 ∧ Exa Z h b17_b1 "java/util/Optional" ∧ Fld Z h b17_b1 "java/util/Optional" "value" "Ljava/lang/Object;" (.ref w_n6)) n0 v U'.heap L ∧ FrameEnd U o U' L ({ frames := 3, cells := 1, slots := 1, locals := 38 } : Room).cells ({ frames := 3, cells := 1, slots := 1, locals := 38 } : Room).slots) := by
  have W' := W; obtain ⟨S_n5, E_n5, S_n10, S_OK, E_OK, S_n1, E_n1, S_n2, E_n2, S_n4, E_n4, S_n9, E_n9, S_n6, E_n6, S_n0, E_n0, S_n7, E_n7, S_n8, E_n8, S_n3, E_n3, S_n11, E_n11, F_OK_code, F_n5_code, F_n1_code, F_n2_code, F_n4_code, F_n9_code, F_n6_code, F_n0_code, F_n7_code, F_n8_code, F_n3_code, F_n11_value, V_n10⟩ := W'
  refine MetFree.of_bodySF (plainFor_of_name pn_2) hisR ?_
  intro p e s m args below meth c s₁ Bd hml0 hP hK
  obtain ⟨rfl, hZ, hh⟩ := hP
  have hx := Bd.exec
  have hby := Bd.bytes
  have hml : c.maxLocals = 5 := hml0
  have hown : s.vm.findClass "com/example/usher/usher/wire/ErrorCode" = some m.cls := findClass_of_methodNamed Bd.named
  have hnm := (name_of_methodNamed Bd.named Bd.method).1
  have X0 : Stand p l e ({ frames := 3, cells := 1, slots := 1, locals := 38 } : Room) s m #[(.int (-103 : Int32))] below meth c s₁ [] 0 0 := Stand.of_body Bd
  have e0 : s₁.heap = h0 := by rw [← hh, Bd.state]; rfl
  have N0 := Fr.nil n0
  have pre0 : ∀ t, Steps p.tables e below (s₁.setTop (mkF m 0 #[.val (.int (-103 : Int32)), .unset, .unset, .unset, .unset] [])) t → Steps p.tables e below (s₁.setTop (entryFrame m #[(.int (-103 : Int32))] 5)) t := fun t k => castTop (ef_2_4 m (-103 : Int32)) k
  obtain ⟨T1, X1, e1, st1⟩ := getS2 X0 hx hZ hown (host := "") (Or.inl (hw _ (List.mem_of_getElem? (i := 11) rfl))) Via.refl e0 (S_n10.ext O0.2) (g := (mkF m 0 #[.val (.int (-103 : Int32)), .unset, .unset, .unset, .unset] [])) rfl (hb hby d2_0)
  obtain ⟨cl2, Ar2, qk2, Sz2, Nz2, Hs2, Gs2⟩ := id (V_n10.ext O0.2)
  obtain ⟨cl3, Ar3, qk3, Sz3, Nz3, Hs3, Gs3⟩ := id (V_n10.ext O0.2)
  have hin3 : ¬ ((0 : Int32) < 0 ∨ cl3.slots.size ≤ ((0 : Int32)).toNatClampNeg) := inb_of Sz3 ⟨by decide, by decide⟩
  have hat3 : cl3.slots[((0 : Int32)).toNatClampNeg]? = some (.ref w_OK) := Has.at Hs3 hin3 rfl
  obtain ⟨T4, X4, e4, st4⟩ := getF X1 hx hZ hown (host := "") (Or.inl (hw _ (List.mem_of_getElem? (i := 14) rfl))) Via.refl e1 (F_OK_code.ext O0.2) (g := (mkF m 21 #[.val (.int (-103 : Int32)), .val (.ref w_n10), .val (.int (11 : Int32)), .val (.int (0 : Int32)), .val (.ref w_OK)] [(.ref w_OK)])) rfl rfl (hb hby d2_21)
  obtain ⟨cl5, Ar5, qk5, Sz5, Nz5, Hs5, Gs5⟩ := id (V_n10.ext O0.2)
  have hin5 : ¬ ((1 : Int32) < 0 ∨ cl5.slots.size ≤ ((1 : Int32)).toNatClampNeg) := inb_of Sz5 ⟨by decide, by decide⟩
  have hat5 : cl5.slots[((1 : Int32)).toNatClampNeg]? = some (.ref w_n1) := Has.at Hs5 hin5 rfl
  obtain ⟨T6, X6, e6, st6⟩ := getF X4 hx hZ hown (host := "") (Or.inl (hw _ (List.mem_of_getElem? (i := 14) rfl))) Via.refl e4 (F_n1_code.ext O0.2) (g := (mkF m 21 #[.val (.int (-103 : Int32)), .val (.ref w_n10), .val (.int (11 : Int32)), .val (.int (1 : Int32)), .val (.ref w_n1)] [(.ref w_n1)])) rfl rfl (hb hby d2_21)
  obtain ⟨cl7, Ar7, qk7, Sz7, Nz7, Hs7, Gs7⟩ := id (V_n10.ext O0.2)
  have hin7 : ¬ ((2 : Int32) < 0 ∨ cl7.slots.size ≤ ((2 : Int32)).toNatClampNeg) := inb_of Sz7 ⟨by decide, by decide⟩
  have hat7 : cl7.slots[((2 : Int32)).toNatClampNeg]? = some (.ref w_n2) := Has.at Hs7 hin7 rfl
  obtain ⟨T8, X8, e8, st8⟩ := getF X6 hx hZ hown (host := "") (Or.inl (hw _ (List.mem_of_getElem? (i := 14) rfl))) Via.refl e6 (F_n2_code.ext O0.2) (g := (mkF m 21 #[.val (.int (-103 : Int32)), .val (.ref w_n10), .val (.int (11 : Int32)), .val (.int (2 : Int32)), .val (.ref w_n2)] [(.ref w_n2)])) rfl rfl (hb hby d2_21)
  obtain ⟨cl9, Ar9, qk9, Sz9, Nz9, Hs9, Gs9⟩ := id (V_n10.ext O0.2)
  have hin9 : ¬ ((3 : Int32) < 0 ∨ cl9.slots.size ≤ ((3 : Int32)).toNatClampNeg) := inb_of Sz9 ⟨by decide, by decide⟩
  have hat9 : cl9.slots[((3 : Int32)).toNatClampNeg]? = some (.ref w_n5) := Has.at Hs9 hin9 rfl
  obtain ⟨T10, X10, e10, st10⟩ := getF X8 hx hZ hown (host := "") (Or.inl (hw _ (List.mem_of_getElem? (i := 14) rfl))) Via.refl e8 (F_n5_code.ext O0.2) (g := (mkF m 21 #[.val (.int (-103 : Int32)), .val (.ref w_n10), .val (.int (11 : Int32)), .val (.int (3 : Int32)), .val (.ref w_n5)] [(.ref w_n5)])) rfl rfl (hb hby d2_21)
  obtain ⟨cl11, Ar11, qk11, Sz11, Nz11, Hs11, Gs11⟩ := id (V_n10.ext O0.2)
  have hin11 : ¬ ((4 : Int32) < 0 ∨ cl11.slots.size ≤ ((4 : Int32)).toNatClampNeg) := inb_of Sz11 ⟨by decide, by decide⟩
  have hat11 : cl11.slots[((4 : Int32)).toNatClampNeg]? = some (.ref w_n4) := Has.at Hs11 hin11 rfl
  obtain ⟨T12, X12, e12, st12⟩ := getF X10 hx hZ hown (host := "") (Or.inl (hw _ (List.mem_of_getElem? (i := 14) rfl))) Via.refl e10 (F_n4_code.ext O0.2) (g := (mkF m 21 #[.val (.int (-103 : Int32)), .val (.ref w_n10), .val (.int (11 : Int32)), .val (.int (4 : Int32)), .val (.ref w_n4)] [(.ref w_n4)])) rfl rfl (hb hby d2_21)
  obtain ⟨cl13, Ar13, qk13, Sz13, Nz13, Hs13, Gs13⟩ := id (V_n10.ext O0.2)
  have hin13 : ¬ ((5 : Int32) < 0 ∨ cl13.slots.size ≤ ((5 : Int32)).toNatClampNeg) := inb_of Sz13 ⟨by decide, by decide⟩
  have hat13 : cl13.slots[((5 : Int32)).toNatClampNeg]? = some (.ref w_n9) := Has.at Hs13 hin13 rfl
  obtain ⟨T14, X14, e14, st14⟩ := getF X12 hx hZ hown (host := "") (Or.inl (hw _ (List.mem_of_getElem? (i := 14) rfl))) Via.refl e12 (F_n9_code.ext O0.2) (g := (mkF m 21 #[.val (.int (-103 : Int32)), .val (.ref w_n10), .val (.int (11 : Int32)), .val (.int (5 : Int32)), .val (.ref w_n9)] [(.ref w_n9)])) rfl rfl (hb hby d2_21)
  obtain ⟨cl15, Ar15, qk15, Sz15, Nz15, Hs15, Gs15⟩ := id (V_n10.ext O0.2)
  have hin15 : ¬ ((6 : Int32) < 0 ∨ cl15.slots.size ≤ ((6 : Int32)).toNatClampNeg) := inb_of Sz15 ⟨by decide, by decide⟩
  have hat15 : cl15.slots[((6 : Int32)).toNatClampNeg]? = some (.ref w_n6) := Has.at Hs15 hin15 rfl
  obtain ⟨T16, X16, e16, st16⟩ := getF X14 hx hZ hown (host := "") (Or.inl (hw _ (List.mem_of_getElem? (i := 14) rfl))) Via.refl e14 (F_n6_code.ext O0.2) (g := (mkF m 21 #[.val (.int (-103 : Int32)), .val (.ref w_n10), .val (.int (11 : Int32)), .val (.int (6 : Int32)), .val (.ref w_n6)] [(.ref w_n6)])) rfl rfl (hb hby d2_21)
  obtain ⟨_, _, ⟨T17, L17, k17, n17⟩, -, X17, ⟨Lc17, hQ17, l17, y17, z17⟩, st17⟩ := Jvm.LawKit.callS X16 hx (y := (⟨"java/util/Optional", "of", "(Ljava/lang/Object;)Ljava/util/Optional;"⟩ : MethodName)) hown (mvT hZ (hw _ (List.mem_of_getElem? (i := 16) rfl))) (mvT hZ (hw _ (List.mem_of_getElem? (i := 17) rfl))) (mvT hZ (hw _ (List.mem_of_getElem? (i := 18) rfl))) (mvT hZ (hw _ (List.mem_of_getElem? (i := 19) rfl))) (by decide) (backOf (W := 0) (rm_of l Z a0 hw [] W w_n6 h0 n0 O0 ) hZ (hw _ (List.mem_of_getElem? (i := 19) rfl)) (hw _ (List.mem_of_getElem? (i := 18) rfl)) (by decide) (by decide)) (g := (mkF m 30 #[.val (.int (-103 : Int32)), .val (.ref w_n10), .val (.int (11 : Int32)), .val (.int (6 : Int32)), .val (.ref w_n6)] [(.ref w_n6)])) rfl (by rw [hml]; rfl) (argsL := [(.ref w_n6)]) (rest := []) (lenOf pd_2 rfl) rfl (by show 2 * 0 + _ ≤ _; exact Nat.le_of_eq rfl) (hb hby d2_30) (fun _ _ => ⟨rfl, e16, (by decide : 0 + 1 ≤ _), (by decide : 0 + 1 ≤ _)⟩)
  dsimp only [Pt.U, Pt.locs, Pt.cells, Pt.slots] at X17 l17 y17 z17 st17 hQ17
  subst l17 y17 z17
  obtain ⟨N17q, hP17⟩ := hQ17
  have N17 := Fr.app N0 N17q
  obtain ⟨b17_b1, rfl, Kp17, g_b17_b1, si_b17_b1, fp17_0, fp17_1⟩ := hP17
  have O17 := O0.keep Kp17 all0
  have sz_b17_b1 : h0.size ≤ b17_b1 := Nat.le_trans ((Keep.refl h0 [])).1 si_b17_b1
  have K17 : Keep h0 T17.heap [] := (Keep.refl h0 []).trans Kp17 all0
  obtain ⟨fs, hr, hrun, hended, hW, hsame⟩ := X17.leave (v := some (.ref b17_b1)) (fun h => by rw [Bd.returns] at h; cases h)
  refine ⟨_, _, pre0 _ ?_, hrun, hended, _, _, rfl, ?_, ⟨_, rfl⟩, hW, hsame.mono (by decide) (by decide)⟩
  · show Steps p.tables e below (s₁.setTop (mkF m 0 #[.val (.int (-103 : Int32)), .unset, .unset, .unset, .unset] [])) _
    refine st1 _ ?_
    show Steps p.tables e below (T1.setTop (mkF m 3 #[.val (.int (-103 : Int32)), .unset, .unset, .unset, .unset] [(.ref w_n10)])) _
    refine XS.astoreN X1.here hx rfl (hb hby d2_3) rfl rfl (l' := #[.val (.int (-103 : Int32)), .val (.ref w_n10), .unset, .unset, .unset]) rfl ?_
    show Steps p.tables e below (T1.setTop (mkF m 4 #[.val (.int (-103 : Int32)), .val (.ref w_n10), .unset, .unset, .unset] [])) _
    refine XS.aloadN X1.here hx rfl (hb hby d2_4) rfl rfl ?_
    show Steps p.tables e below (T1.setTop (mkF m 5 #[.val (.int (-103 : Int32)), .val (.ref w_n10), .unset, .unset, .unset] [(.ref w_n10)])) _
    refine X1.arraylength hx (by rw [e1]; exact Ar2.1) (State.isArrayOf_alike hZ.alike Ar2.2.1) (g := (mkF m 5 #[.val (.int (-103 : Int32)), .val (.ref w_n10), .unset, .unset, .unset] [(.ref w_n10)])) rfl rfl (hb hby d2_5) _ ?_
    rw [len_of Sz2 Nz2]
    show Steps p.tables e below (T1.setTop (mkF m 6 #[.val (.int (-103 : Int32)), .val (.ref w_n10), .unset, .unset, .unset] [(.int (11 : Int32))])) _
    refine XS.istoreN X1.here hx rfl (hb hby d2_6) rfl (l' := #[.val (.int (-103 : Int32)), .val (.ref w_n10), .val (.int (11 : Int32)), .unset, .unset]) rfl ?_
    show Steps p.tables e below (T1.setTop (mkF m 7 #[.val (.int (-103 : Int32)), .val (.ref w_n10), .val (.int (11 : Int32)), .unset, .unset] [])) _
    refine XS.iconst X1.here hx rfl (hb hby d2_7) ?_
    show Steps p.tables e below (T1.setTop (mkF m 8 #[.val (.int (-103 : Int32)), .val (.ref w_n10), .val (.int (11 : Int32)), .unset, .unset] [(.int (0 : Int32))])) _
    refine XS.istoreN X1.here hx rfl (hb hby d2_8) rfl (l' := #[.val (.int (-103 : Int32)), .val (.ref w_n10), .val (.int (11 : Int32)), .val (.int (0 : Int32)), .unset]) rfl ?_
    show Steps p.tables e below (T1.setTop (mkF m 9 #[.val (.int (-103 : Int32)), .val (.ref w_n10), .val (.int (11 : Int32)), .val (.int (0 : Int32)), .unset] [])) _
    refine XS.iloadN X1.here hx rfl (hb hby d2_9) rfl ?_
    show Steps p.tables e below (T1.setTop (mkF m 10 #[.val (.int (-103 : Int32)), .val (.ref w_n10), .val (.int (11 : Int32)), .val (.int (0 : Int32)), .unset] [(.int (0 : Int32))])) _
    refine XS.iloadN X1.here hx rfl (hb hby d2_10) rfl ?_
    show Steps p.tables e below (T1.setTop (mkF m 11 #[.val (.int (-103 : Int32)), .val (.ref w_n10), .val (.int (11 : Int32)), .val (.int (0 : Int32)), .unset] [(.int (11 : Int32)), (.int (0 : Int32))])) _
    refine XS.icmpNo X1.here hx rfl (hb hby d2_11) rfl (tlt ((by decide) : (0 : Int32) < (11 : Int32))).2.1 ?_
    show Steps p.tables e below (T1.setTop (mkF m 14 #[.val (.int (-103 : Int32)), .val (.ref w_n10), .val (.int (11 : Int32)), .val (.int (0 : Int32)), .unset] [])) _
    refine XS.aloadN X1.here hx rfl (hb hby d2_14) rfl rfl ?_
    show Steps p.tables e below (T1.setTop (mkF m 15 #[.val (.int (-103 : Int32)), .val (.ref w_n10), .val (.int (11 : Int32)), .val (.int (0 : Int32)), .unset] [(.ref w_n10)])) _
    refine XS.iloadN X1.here hx rfl (hb hby d2_15) rfl ?_
    show Steps p.tables e below (T1.setTop (mkF m 16 #[.val (.int (-103 : Int32)), .val (.ref w_n10), .val (.int (11 : Int32)), .val (.int (0 : Int32)), .unset] [(.int (0 : Int32)), (.ref w_n10)])) _
    refine X1.aaload hx (j := (0 : Int32)) (v := (.ref w_OK)) (by rw [e1]; exact Ar3.1) (State.isArrayOf_alike hZ.alike Ar3.2.1) rfl Ar3.2.2 hin3 hat3 (g := (mkF m 16 #[.val (.int (-103 : Int32)), .val (.ref w_n10), .val (.int (11 : Int32)), .val (.int (0 : Int32)), .unset] [(.int (0 : Int32)), (.ref w_n10)])) rfl rfl (hb hby d2_16) _ ?_
    show Steps p.tables e below (T1.setTop (mkF m 17 #[.val (.int (-103 : Int32)), .val (.ref w_n10), .val (.int (11 : Int32)), .val (.int (0 : Int32)), .unset] [(.ref w_OK)])) _
    refine XS.astore X1.here hx rfl (hb hby d2_17) rfl rfl (l' := #[.val (.int (-103 : Int32)), .val (.ref w_n10), .val (.int (11 : Int32)), .val (.int (0 : Int32)), .val (.ref w_OK)]) rfl ?_
    show Steps p.tables e below (T1.setTop (mkF m 19 #[.val (.int (-103 : Int32)), .val (.ref w_n10), .val (.int (11 : Int32)), .val (.int (0 : Int32)), .val (.ref w_OK)] [])) _
    refine XS.aload X1.here hx rfl (hb hby d2_19) rfl rfl ?_
    show Steps p.tables e below (T1.setTop (mkF m 21 #[.val (.int (-103 : Int32)), .val (.ref w_n10), .val (.int (11 : Int32)), .val (.int (0 : Int32)), .val (.ref w_OK)] [(.ref w_OK)])) _
    refine st4 _ ?_
    show Steps p.tables e below (T4.setTop (mkF m 24 #[.val (.int (-103 : Int32)), .val (.ref w_n10), .val (.int (11 : Int32)), .val (.int (0 : Int32)), .val (.ref w_OK)] [(.int (0 : Int32))])) _
    refine XS.iloadN X4.here hx rfl (hb hby d2_24) rfl ?_
    show Steps p.tables e below (T4.setTop (mkF m 25 #[.val (.int (-103 : Int32)), .val (.ref w_n10), .val (.int (11 : Int32)), .val (.int (0 : Int32)), .val (.ref w_OK)] [(.int (-103 : Int32)), (.int (0 : Int32))])) _
    refine XS.icmpYes X4.here hx rfl (pc0 := 25) (pc' := 34) rfl (hb hby d2_25) rfl (feq ((by decide) : ¬ ((0 : Int32) = (-103 : Int32)))).2 (by decide) (by decide) ?_
    show Steps p.tables e below (T4.setTop (mkF m 34 #[.val (.int (-103 : Int32)), .val (.ref w_n10), .val (.int (11 : Int32)), .val (.int (0 : Int32)), .val (.ref w_OK)] [])) _
    refine XS.iinc X4.here hx rfl (hb hby d2_34) rfl (l' := #[.val (.int (-103 : Int32)), .val (.ref w_n10), .val (.int (11 : Int32)), .val (.int ((0 : Int32) + (1 : Int32))), .val (.ref w_OK)]) rfl ?_
    show Steps p.tables e below (T4.setTop (mkF m 37 #[.val (.int (-103 : Int32)), .val (.ref w_n10), .val (.int (11 : Int32)), .val (.int ((0 : Int32) + (1 : Int32))), .val (.ref w_OK)] [])) _
    rw [show ((0 : Int32) + (1 : Int32)) = (1 : Int32) from by decide]
    show Steps p.tables e below (T4.setTop (mkF m 37 #[.val (.int (-103 : Int32)), .val (.ref w_n10), .val (.int (11 : Int32)), .val (.int (1 : Int32)), .val (.ref w_OK)] [])) _
    refine XS.goto X4.here hx rfl (pc0 := 37) (pc' := 9) rfl (hb hby d2_37) (by decide) (by decide) ?_
    show Steps p.tables e below (T4.setTop (mkF m 9 #[.val (.int (-103 : Int32)), .val (.ref w_n10), .val (.int (11 : Int32)), .val (.int (1 : Int32)), .val (.ref w_OK)] [])) _
    refine XS.iloadN X4.here hx rfl (hb hby d2_9) rfl ?_
    show Steps p.tables e below (T4.setTop (mkF m 10 #[.val (.int (-103 : Int32)), .val (.ref w_n10), .val (.int (11 : Int32)), .val (.int (1 : Int32)), .val (.ref w_OK)] [(.int (1 : Int32))])) _
    refine XS.iloadN X4.here hx rfl (hb hby d2_10) rfl ?_
    show Steps p.tables e below (T4.setTop (mkF m 11 #[.val (.int (-103 : Int32)), .val (.ref w_n10), .val (.int (11 : Int32)), .val (.int (1 : Int32)), .val (.ref w_OK)] [(.int (11 : Int32)), (.int (1 : Int32))])) _
    refine XS.icmpNo X4.here hx rfl (hb hby d2_11) rfl (tlt ((by decide) : (1 : Int32) < (11 : Int32))).2.1 ?_
    show Steps p.tables e below (T4.setTop (mkF m 14 #[.val (.int (-103 : Int32)), .val (.ref w_n10), .val (.int (11 : Int32)), .val (.int (1 : Int32)), .val (.ref w_OK)] [])) _
    refine XS.aloadN X4.here hx rfl (hb hby d2_14) rfl rfl ?_
    show Steps p.tables e below (T4.setTop (mkF m 15 #[.val (.int (-103 : Int32)), .val (.ref w_n10), .val (.int (11 : Int32)), .val (.int (1 : Int32)), .val (.ref w_OK)] [(.ref w_n10)])) _
    refine XS.iloadN X4.here hx rfl (hb hby d2_15) rfl ?_
    show Steps p.tables e below (T4.setTop (mkF m 16 #[.val (.int (-103 : Int32)), .val (.ref w_n10), .val (.int (11 : Int32)), .val (.int (1 : Int32)), .val (.ref w_OK)] [(.int (1 : Int32)), (.ref w_n10)])) _
    refine X4.aaload hx (j := (1 : Int32)) (v := (.ref w_n1)) (by rw [e4]; exact Ar5.1) (State.isArrayOf_alike hZ.alike Ar5.2.1) rfl Ar5.2.2 hin5 hat5 (g := (mkF m 16 #[.val (.int (-103 : Int32)), .val (.ref w_n10), .val (.int (11 : Int32)), .val (.int (1 : Int32)), .val (.ref w_OK)] [(.int (1 : Int32)), (.ref w_n10)])) rfl rfl (hb hby d2_16) _ ?_
    show Steps p.tables e below (T4.setTop (mkF m 17 #[.val (.int (-103 : Int32)), .val (.ref w_n10), .val (.int (11 : Int32)), .val (.int (1 : Int32)), .val (.ref w_OK)] [(.ref w_n1)])) _
    refine XS.astore X4.here hx rfl (hb hby d2_17) rfl rfl (l' := #[.val (.int (-103 : Int32)), .val (.ref w_n10), .val (.int (11 : Int32)), .val (.int (1 : Int32)), .val (.ref w_n1)]) rfl ?_
    show Steps p.tables e below (T4.setTop (mkF m 19 #[.val (.int (-103 : Int32)), .val (.ref w_n10), .val (.int (11 : Int32)), .val (.int (1 : Int32)), .val (.ref w_n1)] [])) _
    refine XS.aload X4.here hx rfl (hb hby d2_19) rfl rfl ?_
    show Steps p.tables e below (T4.setTop (mkF m 21 #[.val (.int (-103 : Int32)), .val (.ref w_n10), .val (.int (11 : Int32)), .val (.int (1 : Int32)), .val (.ref w_n1)] [(.ref w_n1)])) _
    refine st6 _ ?_
    show Steps p.tables e below (T6.setTop (mkF m 24 #[.val (.int (-103 : Int32)), .val (.ref w_n10), .val (.int (11 : Int32)), .val (.int (1 : Int32)), .val (.ref w_n1)] [(.int (-2 : Int32))])) _
    refine XS.iloadN X6.here hx rfl (hb hby d2_24) rfl ?_
    show Steps p.tables e below (T6.setTop (mkF m 25 #[.val (.int (-103 : Int32)), .val (.ref w_n10), .val (.int (11 : Int32)), .val (.int (1 : Int32)), .val (.ref w_n1)] [(.int (-103 : Int32)), (.int (-2 : Int32))])) _
    refine XS.icmpYes X6.here hx rfl (pc0 := 25) (pc' := 34) rfl (hb hby d2_25) rfl (feq ((by decide) : ¬ ((-2 : Int32) = (-103 : Int32)))).2 (by decide) (by decide) ?_
    show Steps p.tables e below (T6.setTop (mkF m 34 #[.val (.int (-103 : Int32)), .val (.ref w_n10), .val (.int (11 : Int32)), .val (.int (1 : Int32)), .val (.ref w_n1)] [])) _
    refine XS.iinc X6.here hx rfl (hb hby d2_34) rfl (l' := #[.val (.int (-103 : Int32)), .val (.ref w_n10), .val (.int (11 : Int32)), .val (.int ((1 : Int32) + (1 : Int32))), .val (.ref w_n1)]) rfl ?_
    show Steps p.tables e below (T6.setTop (mkF m 37 #[.val (.int (-103 : Int32)), .val (.ref w_n10), .val (.int (11 : Int32)), .val (.int ((1 : Int32) + (1 : Int32))), .val (.ref w_n1)] [])) _
    rw [show ((1 : Int32) + (1 : Int32)) = (2 : Int32) from by decide]
    show Steps p.tables e below (T6.setTop (mkF m 37 #[.val (.int (-103 : Int32)), .val (.ref w_n10), .val (.int (11 : Int32)), .val (.int (2 : Int32)), .val (.ref w_n1)] [])) _
    refine XS.goto X6.here hx rfl (pc0 := 37) (pc' := 9) rfl (hb hby d2_37) (by decide) (by decide) ?_
    show Steps p.tables e below (T6.setTop (mkF m 9 #[.val (.int (-103 : Int32)), .val (.ref w_n10), .val (.int (11 : Int32)), .val (.int (2 : Int32)), .val (.ref w_n1)] [])) _
    refine XS.iloadN X6.here hx rfl (hb hby d2_9) rfl ?_
    show Steps p.tables e below (T6.setTop (mkF m 10 #[.val (.int (-103 : Int32)), .val (.ref w_n10), .val (.int (11 : Int32)), .val (.int (2 : Int32)), .val (.ref w_n1)] [(.int (2 : Int32))])) _
    refine XS.iloadN X6.here hx rfl (hb hby d2_10) rfl ?_
    show Steps p.tables e below (T6.setTop (mkF m 11 #[.val (.int (-103 : Int32)), .val (.ref w_n10), .val (.int (11 : Int32)), .val (.int (2 : Int32)), .val (.ref w_n1)] [(.int (11 : Int32)), (.int (2 : Int32))])) _
    refine XS.icmpNo X6.here hx rfl (hb hby d2_11) rfl (tlt ((by decide) : (2 : Int32) < (11 : Int32))).2.1 ?_
    show Steps p.tables e below (T6.setTop (mkF m 14 #[.val (.int (-103 : Int32)), .val (.ref w_n10), .val (.int (11 : Int32)), .val (.int (2 : Int32)), .val (.ref w_n1)] [])) _
    refine XS.aloadN X6.here hx rfl (hb hby d2_14) rfl rfl ?_
    show Steps p.tables e below (T6.setTop (mkF m 15 #[.val (.int (-103 : Int32)), .val (.ref w_n10), .val (.int (11 : Int32)), .val (.int (2 : Int32)), .val (.ref w_n1)] [(.ref w_n10)])) _
    refine XS.iloadN X6.here hx rfl (hb hby d2_15) rfl ?_
    show Steps p.tables e below (T6.setTop (mkF m 16 #[.val (.int (-103 : Int32)), .val (.ref w_n10), .val (.int (11 : Int32)), .val (.int (2 : Int32)), .val (.ref w_n1)] [(.int (2 : Int32)), (.ref w_n10)])) _
    refine X6.aaload hx (j := (2 : Int32)) (v := (.ref w_n2)) (by rw [e6]; exact Ar7.1) (State.isArrayOf_alike hZ.alike Ar7.2.1) rfl Ar7.2.2 hin7 hat7 (g := (mkF m 16 #[.val (.int (-103 : Int32)), .val (.ref w_n10), .val (.int (11 : Int32)), .val (.int (2 : Int32)), .val (.ref w_n1)] [(.int (2 : Int32)), (.ref w_n10)])) rfl rfl (hb hby d2_16) _ ?_
    show Steps p.tables e below (T6.setTop (mkF m 17 #[.val (.int (-103 : Int32)), .val (.ref w_n10), .val (.int (11 : Int32)), .val (.int (2 : Int32)), .val (.ref w_n1)] [(.ref w_n2)])) _
    refine XS.astore X6.here hx rfl (hb hby d2_17) rfl rfl (l' := #[.val (.int (-103 : Int32)), .val (.ref w_n10), .val (.int (11 : Int32)), .val (.int (2 : Int32)), .val (.ref w_n2)]) rfl ?_
    show Steps p.tables e below (T6.setTop (mkF m 19 #[.val (.int (-103 : Int32)), .val (.ref w_n10), .val (.int (11 : Int32)), .val (.int (2 : Int32)), .val (.ref w_n2)] [])) _
    refine XS.aload X6.here hx rfl (hb hby d2_19) rfl rfl ?_
    show Steps p.tables e below (T6.setTop (mkF m 21 #[.val (.int (-103 : Int32)), .val (.ref w_n10), .val (.int (11 : Int32)), .val (.int (2 : Int32)), .val (.ref w_n2)] [(.ref w_n2)])) _
    refine st8 _ ?_
    show Steps p.tables e below (T8.setTop (mkF m 24 #[.val (.int (-103 : Int32)), .val (.ref w_n10), .val (.int (11 : Int32)), .val (.int (2 : Int32)), .val (.ref w_n2)] [(.int (-5 : Int32))])) _
    refine XS.iloadN X8.here hx rfl (hb hby d2_24) rfl ?_
    show Steps p.tables e below (T8.setTop (mkF m 25 #[.val (.int (-103 : Int32)), .val (.ref w_n10), .val (.int (11 : Int32)), .val (.int (2 : Int32)), .val (.ref w_n2)] [(.int (-103 : Int32)), (.int (-5 : Int32))])) _
    refine XS.icmpYes X8.here hx rfl (pc0 := 25) (pc' := 34) rfl (hb hby d2_25) rfl (feq ((by decide) : ¬ ((-5 : Int32) = (-103 : Int32)))).2 (by decide) (by decide) ?_
    show Steps p.tables e below (T8.setTop (mkF m 34 #[.val (.int (-103 : Int32)), .val (.ref w_n10), .val (.int (11 : Int32)), .val (.int (2 : Int32)), .val (.ref w_n2)] [])) _
    refine XS.iinc X8.here hx rfl (hb hby d2_34) rfl (l' := #[.val (.int (-103 : Int32)), .val (.ref w_n10), .val (.int (11 : Int32)), .val (.int ((2 : Int32) + (1 : Int32))), .val (.ref w_n2)]) rfl ?_
    show Steps p.tables e below (T8.setTop (mkF m 37 #[.val (.int (-103 : Int32)), .val (.ref w_n10), .val (.int (11 : Int32)), .val (.int ((2 : Int32) + (1 : Int32))), .val (.ref w_n2)] [])) _
    rw [show ((2 : Int32) + (1 : Int32)) = (3 : Int32) from by decide]
    show Steps p.tables e below (T8.setTop (mkF m 37 #[.val (.int (-103 : Int32)), .val (.ref w_n10), .val (.int (11 : Int32)), .val (.int (3 : Int32)), .val (.ref w_n2)] [])) _
    refine XS.goto X8.here hx rfl (pc0 := 37) (pc' := 9) rfl (hb hby d2_37) (by decide) (by decide) ?_
    show Steps p.tables e below (T8.setTop (mkF m 9 #[.val (.int (-103 : Int32)), .val (.ref w_n10), .val (.int (11 : Int32)), .val (.int (3 : Int32)), .val (.ref w_n2)] [])) _
    refine XS.iloadN X8.here hx rfl (hb hby d2_9) rfl ?_
    show Steps p.tables e below (T8.setTop (mkF m 10 #[.val (.int (-103 : Int32)), .val (.ref w_n10), .val (.int (11 : Int32)), .val (.int (3 : Int32)), .val (.ref w_n2)] [(.int (3 : Int32))])) _
    refine XS.iloadN X8.here hx rfl (hb hby d2_10) rfl ?_
    show Steps p.tables e below (T8.setTop (mkF m 11 #[.val (.int (-103 : Int32)), .val (.ref w_n10), .val (.int (11 : Int32)), .val (.int (3 : Int32)), .val (.ref w_n2)] [(.int (11 : Int32)), (.int (3 : Int32))])) _
    refine XS.icmpNo X8.here hx rfl (hb hby d2_11) rfl (tlt ((by decide) : (3 : Int32) < (11 : Int32))).2.1 ?_
    show Steps p.tables e below (T8.setTop (mkF m 14 #[.val (.int (-103 : Int32)), .val (.ref w_n10), .val (.int (11 : Int32)), .val (.int (3 : Int32)), .val (.ref w_n2)] [])) _
    refine XS.aloadN X8.here hx rfl (hb hby d2_14) rfl rfl ?_
    show Steps p.tables e below (T8.setTop (mkF m 15 #[.val (.int (-103 : Int32)), .val (.ref w_n10), .val (.int (11 : Int32)), .val (.int (3 : Int32)), .val (.ref w_n2)] [(.ref w_n10)])) _
    refine XS.iloadN X8.here hx rfl (hb hby d2_15) rfl ?_
    show Steps p.tables e below (T8.setTop (mkF m 16 #[.val (.int (-103 : Int32)), .val (.ref w_n10), .val (.int (11 : Int32)), .val (.int (3 : Int32)), .val (.ref w_n2)] [(.int (3 : Int32)), (.ref w_n10)])) _
    refine X8.aaload hx (j := (3 : Int32)) (v := (.ref w_n5)) (by rw [e8]; exact Ar9.1) (State.isArrayOf_alike hZ.alike Ar9.2.1) rfl Ar9.2.2 hin9 hat9 (g := (mkF m 16 #[.val (.int (-103 : Int32)), .val (.ref w_n10), .val (.int (11 : Int32)), .val (.int (3 : Int32)), .val (.ref w_n2)] [(.int (3 : Int32)), (.ref w_n10)])) rfl rfl (hb hby d2_16) _ ?_
    show Steps p.tables e below (T8.setTop (mkF m 17 #[.val (.int (-103 : Int32)), .val (.ref w_n10), .val (.int (11 : Int32)), .val (.int (3 : Int32)), .val (.ref w_n2)] [(.ref w_n5)])) _
    refine XS.astore X8.here hx rfl (hb hby d2_17) rfl rfl (l' := #[.val (.int (-103 : Int32)), .val (.ref w_n10), .val (.int (11 : Int32)), .val (.int (3 : Int32)), .val (.ref w_n5)]) rfl ?_
    show Steps p.tables e below (T8.setTop (mkF m 19 #[.val (.int (-103 : Int32)), .val (.ref w_n10), .val (.int (11 : Int32)), .val (.int (3 : Int32)), .val (.ref w_n5)] [])) _
    refine XS.aload X8.here hx rfl (hb hby d2_19) rfl rfl ?_
    show Steps p.tables e below (T8.setTop (mkF m 21 #[.val (.int (-103 : Int32)), .val (.ref w_n10), .val (.int (11 : Int32)), .val (.int (3 : Int32)), .val (.ref w_n5)] [(.ref w_n5)])) _
    refine st10 _ ?_
    show Steps p.tables e below (T10.setTop (mkF m 24 #[.val (.int (-103 : Int32)), .val (.ref w_n10), .val (.int (11 : Int32)), .val (.int (3 : Int32)), .val (.ref w_n5)] [(.int (-6 : Int32))])) _
    refine XS.iloadN X10.here hx rfl (hb hby d2_24) rfl ?_
    show Steps p.tables e below (T10.setTop (mkF m 25 #[.val (.int (-103 : Int32)), .val (.ref w_n10), .val (.int (11 : Int32)), .val (.int (3 : Int32)), .val (.ref w_n5)] [(.int (-103 : Int32)), (.int (-6 : Int32))])) _
    refine XS.icmpYes X10.here hx rfl (pc0 := 25) (pc' := 34) rfl (hb hby d2_25) rfl (feq ((by decide) : ¬ ((-6 : Int32) = (-103 : Int32)))).2 (by decide) (by decide) ?_
    show Steps p.tables e below (T10.setTop (mkF m 34 #[.val (.int (-103 : Int32)), .val (.ref w_n10), .val (.int (11 : Int32)), .val (.int (3 : Int32)), .val (.ref w_n5)] [])) _
    refine XS.iinc X10.here hx rfl (hb hby d2_34) rfl (l' := #[.val (.int (-103 : Int32)), .val (.ref w_n10), .val (.int (11 : Int32)), .val (.int ((3 : Int32) + (1 : Int32))), .val (.ref w_n5)]) rfl ?_
    show Steps p.tables e below (T10.setTop (mkF m 37 #[.val (.int (-103 : Int32)), .val (.ref w_n10), .val (.int (11 : Int32)), .val (.int ((3 : Int32) + (1 : Int32))), .val (.ref w_n5)] [])) _
    rw [show ((3 : Int32) + (1 : Int32)) = (4 : Int32) from by decide]
    show Steps p.tables e below (T10.setTop (mkF m 37 #[.val (.int (-103 : Int32)), .val (.ref w_n10), .val (.int (11 : Int32)), .val (.int (4 : Int32)), .val (.ref w_n5)] [])) _
    refine XS.goto X10.here hx rfl (pc0 := 37) (pc' := 9) rfl (hb hby d2_37) (by decide) (by decide) ?_
    show Steps p.tables e below (T10.setTop (mkF m 9 #[.val (.int (-103 : Int32)), .val (.ref w_n10), .val (.int (11 : Int32)), .val (.int (4 : Int32)), .val (.ref w_n5)] [])) _
    refine XS.iloadN X10.here hx rfl (hb hby d2_9) rfl ?_
    show Steps p.tables e below (T10.setTop (mkF m 10 #[.val (.int (-103 : Int32)), .val (.ref w_n10), .val (.int (11 : Int32)), .val (.int (4 : Int32)), .val (.ref w_n5)] [(.int (4 : Int32))])) _
    refine XS.iloadN X10.here hx rfl (hb hby d2_10) rfl ?_
    show Steps p.tables e below (T10.setTop (mkF m 11 #[.val (.int (-103 : Int32)), .val (.ref w_n10), .val (.int (11 : Int32)), .val (.int (4 : Int32)), .val (.ref w_n5)] [(.int (11 : Int32)), (.int (4 : Int32))])) _
    refine XS.icmpNo X10.here hx rfl (hb hby d2_11) rfl (tlt ((by decide) : (4 : Int32) < (11 : Int32))).2.1 ?_
    show Steps p.tables e below (T10.setTop (mkF m 14 #[.val (.int (-103 : Int32)), .val (.ref w_n10), .val (.int (11 : Int32)), .val (.int (4 : Int32)), .val (.ref w_n5)] [])) _
    refine XS.aloadN X10.here hx rfl (hb hby d2_14) rfl rfl ?_
    show Steps p.tables e below (T10.setTop (mkF m 15 #[.val (.int (-103 : Int32)), .val (.ref w_n10), .val (.int (11 : Int32)), .val (.int (4 : Int32)), .val (.ref w_n5)] [(.ref w_n10)])) _
    refine XS.iloadN X10.here hx rfl (hb hby d2_15) rfl ?_
    show Steps p.tables e below (T10.setTop (mkF m 16 #[.val (.int (-103 : Int32)), .val (.ref w_n10), .val (.int (11 : Int32)), .val (.int (4 : Int32)), .val (.ref w_n5)] [(.int (4 : Int32)), (.ref w_n10)])) _
    refine X10.aaload hx (j := (4 : Int32)) (v := (.ref w_n4)) (by rw [e10]; exact Ar11.1) (State.isArrayOf_alike hZ.alike Ar11.2.1) rfl Ar11.2.2 hin11 hat11 (g := (mkF m 16 #[.val (.int (-103 : Int32)), .val (.ref w_n10), .val (.int (11 : Int32)), .val (.int (4 : Int32)), .val (.ref w_n5)] [(.int (4 : Int32)), (.ref w_n10)])) rfl rfl (hb hby d2_16) _ ?_
    show Steps p.tables e below (T10.setTop (mkF m 17 #[.val (.int (-103 : Int32)), .val (.ref w_n10), .val (.int (11 : Int32)), .val (.int (4 : Int32)), .val (.ref w_n5)] [(.ref w_n4)])) _
    refine XS.astore X10.here hx rfl (hb hby d2_17) rfl rfl (l' := #[.val (.int (-103 : Int32)), .val (.ref w_n10), .val (.int (11 : Int32)), .val (.int (4 : Int32)), .val (.ref w_n4)]) rfl ?_
    show Steps p.tables e below (T10.setTop (mkF m 19 #[.val (.int (-103 : Int32)), .val (.ref w_n10), .val (.int (11 : Int32)), .val (.int (4 : Int32)), .val (.ref w_n4)] [])) _
    refine XS.aload X10.here hx rfl (hb hby d2_19) rfl rfl ?_
    show Steps p.tables e below (T10.setTop (mkF m 21 #[.val (.int (-103 : Int32)), .val (.ref w_n10), .val (.int (11 : Int32)), .val (.int (4 : Int32)), .val (.ref w_n4)] [(.ref w_n4)])) _
    refine st12 _ ?_
    show Steps p.tables e below (T12.setTop (mkF m 24 #[.val (.int (-103 : Int32)), .val (.ref w_n10), .val (.int (11 : Int32)), .val (.int (4 : Int32)), .val (.ref w_n4)] [(.int (-8 : Int32))])) _
    refine XS.iloadN X12.here hx rfl (hb hby d2_24) rfl ?_
    show Steps p.tables e below (T12.setTop (mkF m 25 #[.val (.int (-103 : Int32)), .val (.ref w_n10), .val (.int (11 : Int32)), .val (.int (4 : Int32)), .val (.ref w_n4)] [(.int (-103 : Int32)), (.int (-8 : Int32))])) _
    refine XS.icmpYes X12.here hx rfl (pc0 := 25) (pc' := 34) rfl (hb hby d2_25) rfl (feq ((by decide) : ¬ ((-8 : Int32) = (-103 : Int32)))).2 (by decide) (by decide) ?_
    show Steps p.tables e below (T12.setTop (mkF m 34 #[.val (.int (-103 : Int32)), .val (.ref w_n10), .val (.int (11 : Int32)), .val (.int (4 : Int32)), .val (.ref w_n4)] [])) _
    refine XS.iinc X12.here hx rfl (hb hby d2_34) rfl (l' := #[.val (.int (-103 : Int32)), .val (.ref w_n10), .val (.int (11 : Int32)), .val (.int ((4 : Int32) + (1 : Int32))), .val (.ref w_n4)]) rfl ?_
    show Steps p.tables e below (T12.setTop (mkF m 37 #[.val (.int (-103 : Int32)), .val (.ref w_n10), .val (.int (11 : Int32)), .val (.int ((4 : Int32) + (1 : Int32))), .val (.ref w_n4)] [])) _
    rw [show ((4 : Int32) + (1 : Int32)) = (5 : Int32) from by decide]
    show Steps p.tables e below (T12.setTop (mkF m 37 #[.val (.int (-103 : Int32)), .val (.ref w_n10), .val (.int (11 : Int32)), .val (.int (5 : Int32)), .val (.ref w_n4)] [])) _
    refine XS.goto X12.here hx rfl (pc0 := 37) (pc' := 9) rfl (hb hby d2_37) (by decide) (by decide) ?_
    show Steps p.tables e below (T12.setTop (mkF m 9 #[.val (.int (-103 : Int32)), .val (.ref w_n10), .val (.int (11 : Int32)), .val (.int (5 : Int32)), .val (.ref w_n4)] [])) _
    refine XS.iloadN X12.here hx rfl (hb hby d2_9) rfl ?_
    show Steps p.tables e below (T12.setTop (mkF m 10 #[.val (.int (-103 : Int32)), .val (.ref w_n10), .val (.int (11 : Int32)), .val (.int (5 : Int32)), .val (.ref w_n4)] [(.int (5 : Int32))])) _
    refine XS.iloadN X12.here hx rfl (hb hby d2_10) rfl ?_
    show Steps p.tables e below (T12.setTop (mkF m 11 #[.val (.int (-103 : Int32)), .val (.ref w_n10), .val (.int (11 : Int32)), .val (.int (5 : Int32)), .val (.ref w_n4)] [(.int (11 : Int32)), (.int (5 : Int32))])) _
    refine XS.icmpNo X12.here hx rfl (hb hby d2_11) rfl (tlt ((by decide) : (5 : Int32) < (11 : Int32))).2.1 ?_
    show Steps p.tables e below (T12.setTop (mkF m 14 #[.val (.int (-103 : Int32)), .val (.ref w_n10), .val (.int (11 : Int32)), .val (.int (5 : Int32)), .val (.ref w_n4)] [])) _
    refine XS.aloadN X12.here hx rfl (hb hby d2_14) rfl rfl ?_
    show Steps p.tables e below (T12.setTop (mkF m 15 #[.val (.int (-103 : Int32)), .val (.ref w_n10), .val (.int (11 : Int32)), .val (.int (5 : Int32)), .val (.ref w_n4)] [(.ref w_n10)])) _
    refine XS.iloadN X12.here hx rfl (hb hby d2_15) rfl ?_
    show Steps p.tables e below (T12.setTop (mkF m 16 #[.val (.int (-103 : Int32)), .val (.ref w_n10), .val (.int (11 : Int32)), .val (.int (5 : Int32)), .val (.ref w_n4)] [(.int (5 : Int32)), (.ref w_n10)])) _
    refine X12.aaload hx (j := (5 : Int32)) (v := (.ref w_n9)) (by rw [e12]; exact Ar13.1) (State.isArrayOf_alike hZ.alike Ar13.2.1) rfl Ar13.2.2 hin13 hat13 (g := (mkF m 16 #[.val (.int (-103 : Int32)), .val (.ref w_n10), .val (.int (11 : Int32)), .val (.int (5 : Int32)), .val (.ref w_n4)] [(.int (5 : Int32)), (.ref w_n10)])) rfl rfl (hb hby d2_16) _ ?_
    show Steps p.tables e below (T12.setTop (mkF m 17 #[.val (.int (-103 : Int32)), .val (.ref w_n10), .val (.int (11 : Int32)), .val (.int (5 : Int32)), .val (.ref w_n4)] [(.ref w_n9)])) _
    refine XS.astore X12.here hx rfl (hb hby d2_17) rfl rfl (l' := #[.val (.int (-103 : Int32)), .val (.ref w_n10), .val (.int (11 : Int32)), .val (.int (5 : Int32)), .val (.ref w_n9)]) rfl ?_
    show Steps p.tables e below (T12.setTop (mkF m 19 #[.val (.int (-103 : Int32)), .val (.ref w_n10), .val (.int (11 : Int32)), .val (.int (5 : Int32)), .val (.ref w_n9)] [])) _
    refine XS.aload X12.here hx rfl (hb hby d2_19) rfl rfl ?_
    show Steps p.tables e below (T12.setTop (mkF m 21 #[.val (.int (-103 : Int32)), .val (.ref w_n10), .val (.int (11 : Int32)), .val (.int (5 : Int32)), .val (.ref w_n9)] [(.ref w_n9)])) _
    refine st14 _ ?_
    show Steps p.tables e below (T14.setTop (mkF m 24 #[.val (.int (-103 : Int32)), .val (.ref w_n10), .val (.int (11 : Int32)), .val (.int (5 : Int32)), .val (.ref w_n9)] [(.int (-101 : Int32))])) _
    refine XS.iloadN X14.here hx rfl (hb hby d2_24) rfl ?_
    show Steps p.tables e below (T14.setTop (mkF m 25 #[.val (.int (-103 : Int32)), .val (.ref w_n10), .val (.int (11 : Int32)), .val (.int (5 : Int32)), .val (.ref w_n9)] [(.int (-103 : Int32)), (.int (-101 : Int32))])) _
    refine XS.icmpYes X14.here hx rfl (pc0 := 25) (pc' := 34) rfl (hb hby d2_25) rfl (feq ((by decide) : ¬ ((-101 : Int32) = (-103 : Int32)))).2 (by decide) (by decide) ?_
    show Steps p.tables e below (T14.setTop (mkF m 34 #[.val (.int (-103 : Int32)), .val (.ref w_n10), .val (.int (11 : Int32)), .val (.int (5 : Int32)), .val (.ref w_n9)] [])) _
    refine XS.iinc X14.here hx rfl (hb hby d2_34) rfl (l' := #[.val (.int (-103 : Int32)), .val (.ref w_n10), .val (.int (11 : Int32)), .val (.int ((5 : Int32) + (1 : Int32))), .val (.ref w_n9)]) rfl ?_
    show Steps p.tables e below (T14.setTop (mkF m 37 #[.val (.int (-103 : Int32)), .val (.ref w_n10), .val (.int (11 : Int32)), .val (.int ((5 : Int32) + (1 : Int32))), .val (.ref w_n9)] [])) _
    rw [show ((5 : Int32) + (1 : Int32)) = (6 : Int32) from by decide]
    show Steps p.tables e below (T14.setTop (mkF m 37 #[.val (.int (-103 : Int32)), .val (.ref w_n10), .val (.int (11 : Int32)), .val (.int (6 : Int32)), .val (.ref w_n9)] [])) _
    refine XS.goto X14.here hx rfl (pc0 := 37) (pc' := 9) rfl (hb hby d2_37) (by decide) (by decide) ?_
    show Steps p.tables e below (T14.setTop (mkF m 9 #[.val (.int (-103 : Int32)), .val (.ref w_n10), .val (.int (11 : Int32)), .val (.int (6 : Int32)), .val (.ref w_n9)] [])) _
    refine XS.iloadN X14.here hx rfl (hb hby d2_9) rfl ?_
    show Steps p.tables e below (T14.setTop (mkF m 10 #[.val (.int (-103 : Int32)), .val (.ref w_n10), .val (.int (11 : Int32)), .val (.int (6 : Int32)), .val (.ref w_n9)] [(.int (6 : Int32))])) _
    refine XS.iloadN X14.here hx rfl (hb hby d2_10) rfl ?_
    show Steps p.tables e below (T14.setTop (mkF m 11 #[.val (.int (-103 : Int32)), .val (.ref w_n10), .val (.int (11 : Int32)), .val (.int (6 : Int32)), .val (.ref w_n9)] [(.int (11 : Int32)), (.int (6 : Int32))])) _
    refine XS.icmpNo X14.here hx rfl (hb hby d2_11) rfl (tlt ((by decide) : (6 : Int32) < (11 : Int32))).2.1 ?_
    show Steps p.tables e below (T14.setTop (mkF m 14 #[.val (.int (-103 : Int32)), .val (.ref w_n10), .val (.int (11 : Int32)), .val (.int (6 : Int32)), .val (.ref w_n9)] [])) _
    refine XS.aloadN X14.here hx rfl (hb hby d2_14) rfl rfl ?_
    show Steps p.tables e below (T14.setTop (mkF m 15 #[.val (.int (-103 : Int32)), .val (.ref w_n10), .val (.int (11 : Int32)), .val (.int (6 : Int32)), .val (.ref w_n9)] [(.ref w_n10)])) _
    refine XS.iloadN X14.here hx rfl (hb hby d2_15) rfl ?_
    show Steps p.tables e below (T14.setTop (mkF m 16 #[.val (.int (-103 : Int32)), .val (.ref w_n10), .val (.int (11 : Int32)), .val (.int (6 : Int32)), .val (.ref w_n9)] [(.int (6 : Int32)), (.ref w_n10)])) _
    refine X14.aaload hx (j := (6 : Int32)) (v := (.ref w_n6)) (by rw [e14]; exact Ar15.1) (State.isArrayOf_alike hZ.alike Ar15.2.1) rfl Ar15.2.2 hin15 hat15 (g := (mkF m 16 #[.val (.int (-103 : Int32)), .val (.ref w_n10), .val (.int (11 : Int32)), .val (.int (6 : Int32)), .val (.ref w_n9)] [(.int (6 : Int32)), (.ref w_n10)])) rfl rfl (hb hby d2_16) _ ?_
    show Steps p.tables e below (T14.setTop (mkF m 17 #[.val (.int (-103 : Int32)), .val (.ref w_n10), .val (.int (11 : Int32)), .val (.int (6 : Int32)), .val (.ref w_n9)] [(.ref w_n6)])) _
    refine XS.astore X14.here hx rfl (hb hby d2_17) rfl rfl (l' := #[.val (.int (-103 : Int32)), .val (.ref w_n10), .val (.int (11 : Int32)), .val (.int (6 : Int32)), .val (.ref w_n6)]) rfl ?_
    show Steps p.tables e below (T14.setTop (mkF m 19 #[.val (.int (-103 : Int32)), .val (.ref w_n10), .val (.int (11 : Int32)), .val (.int (6 : Int32)), .val (.ref w_n6)] [])) _
    refine XS.aload X14.here hx rfl (hb hby d2_19) rfl rfl ?_
    show Steps p.tables e below (T14.setTop (mkF m 21 #[.val (.int (-103 : Int32)), .val (.ref w_n10), .val (.int (11 : Int32)), .val (.int (6 : Int32)), .val (.ref w_n6)] [(.ref w_n6)])) _
    refine st16 _ ?_
    show Steps p.tables e below (T16.setTop (mkF m 24 #[.val (.int (-103 : Int32)), .val (.ref w_n10), .val (.int (11 : Int32)), .val (.int (6 : Int32)), .val (.ref w_n6)] [(.int (-103 : Int32))])) _
    refine XS.iloadN X16.here hx rfl (hb hby d2_24) rfl ?_
    show Steps p.tables e below (T16.setTop (mkF m 25 #[.val (.int (-103 : Int32)), .val (.ref w_n10), .val (.int (11 : Int32)), .val (.int (6 : Int32)), .val (.ref w_n6)] [(.int (-103 : Int32)), (.int (-103 : Int32))])) _
    refine XS.icmpNo X16.here hx rfl (hb hby d2_25) rfl (teq ((by decide) : (-103 : Int32) = (-103 : Int32))).2 ?_
    show Steps p.tables e below (T16.setTop (mkF m 28 #[.val (.int (-103 : Int32)), .val (.ref w_n10), .val (.int (11 : Int32)), .val (.int (6 : Int32)), .val (.ref w_n6)] [])) _
    refine XS.aload X16.here hx rfl (hb hby d2_28) rfl rfl ?_
    show Steps p.tables e below (T16.setTop (mkF m 30 #[.val (.int (-103 : Int32)), .val (.ref w_n10), .val (.int (11 : Int32)), .val (.int (6 : Int32)), .val (.ref w_n6)] [(.ref w_n6)])) _
    refine st17 _ ?_
    show Steps p.tables e below (T17.setTop (mkF m 33 #[.val (.int (-103 : Int32)), .val (.ref w_n10), .val (.int (11 : Int32)), .val (.int (6 : Int32)), .val (.ref w_n6)] [(.ref b17_b1)])) _
    jvm_step X17.here [X17.here.top, hx, (hb hby d2_33), X17.method', Bd.returns, Value.isRef, FieldType.isReference]
    first | (intro acts; rw [hr _ acts rfl rfl rfl]) | rw [hr _ _ rfl rfl rfl]
    exact Steps.refl _
  · show QW (fun v h => ∃ b17_b1 : Addr, v = some (.ref b17_b1) ∧ Keep h0 h [] ∧ n0 ≤ b17_b1 ∧ h0.size ≤ b17_b1 ∧ Exa Z h b17_b1 "java/util/Optional" ∧ Fld Z h b17_b1 "java/util/Optional" "value" "Ljava/lang/Object;" (.ref w_n6)) n0 _ T17.heap _
    exact ⟨N17, ⟨b17_b1, rfl, K17, g_b17_b1, sz_b17_b1, fp17_0, fp17_1⟩⟩
theorem d8_58 : decode method_2_code 58 = .ok (.iload_n 0, 1) := by decide +kernel
theorem d8_59 : decode method_2_code 59 = .ok (.bipush (-103), 2) := by decide +kernel
theorem d8_61 : decode method_2_code 61 = .ok (.if_icmp .ne 7, 3) := by decide +kernel
theorem d8_64 : decode method_2_code 64 = .ok (.getstatic 28, 3) := by decide +kernel
theorem d8_67 : decode method_2_code 67 = .ok (.areturn, 1) := by decide +kernel
set_option maxRecDepth 65536 in
set_option maxHeartbeats 40000000 in
theorem rm_ex6 (l : Launch) (Z : State) (a0 : Array Value) (hw : ∀ d ∈ tables_1, d.before a0 Z = true) (ws : List Jvm.Cond) {w_n5 : Addr} {w_n10 : Addr} {w_OK : Addr} {w_n1 : Addr} {w_n2 : Addr} {w_n4 : Addr} {w_n9 : Addr} {w_n6 : Addr} {w_n0 : Addr} {w_n7 : Addr} {w_n8 : Addr} {w_n3 : Addr} {w_n11 : Addr} {k_n10 : ClassId} (W : Wd Z w_n5 w_n10 w_OK w_n1 w_n2 w_n4 w_n9 w_n6 w_n0 w_n7 w_n8 w_n3 w_n11 k_n10) (h0 : Heap) (n0 : Nat) (O0 : Old Z n0 h0) :
    MetFree l (⟨"com/example/usher/usher/wire/ErrorCodeForCodePinLaw", "expected", "(I)Lcom/example/usher/usher/wire/ErrorCode;"⟩ : MethodName) (head1 (Jvm.Cond.code (⟨"com/example/usher/usher/wire/ErrorCodeForCodePinLaw", "expected", "(I)Lcom/example/usher/usher/wire/ErrorCode;"⟩ : MethodName) method_2_code 1 (some (.object "com/example/usher/usher/wire/ErrorCode")) :: ws) ({ frames := 0, cells := 0, slots := 0, locals := 0 } : Room)) (fun a U => a = #[(.int (-103 : Int32))] ∧ Z.Warmed39 U.vm ∧ U.heap = h0) (fun _ _ _ _ _ => True) (fun _ U o U' => ∃ v L, o = .returned v ∧ QP (some (.ref w_n6)) h0 n0 v U'.heap L ∧ FrameEnd U o U' L ({ frames := 0, cells := 0, slots := 0, locals := 0 } : Room).cells ({ frames := 0, cells := 0, slots := 0, locals := 0 } : Room).slots) := by
  have W' := W; obtain ⟨S_n5, E_n5, S_n10, S_OK, E_OK, S_n1, E_n1, S_n2, E_n2, S_n4, E_n4, S_n9, E_n9, S_n6, E_n6, S_n0, E_n0, S_n7, E_n7, S_n8, E_n8, S_n3, E_n3, S_n11, E_n11, F_OK_code, F_n5_code, F_n1_code, F_n2_code, F_n4_code, F_n9_code, F_n6_code, F_n0_code, F_n7_code, F_n8_code, F_n3_code, F_n11_value, V_n10⟩ := W'
  refine MetFree.of_bodySF (plainFor_of_name pn_8) hisR ?_
  intro p e s m args below meth c s₁ Bd hml0 hP hK
  obtain ⟨rfl, hZ, hh⟩ := hP
  have hx := Bd.exec
  have hby := Bd.bytes
  have hml : c.maxLocals = 1 := hml0
  have hown : s.vm.findClass "com/example/usher/usher/wire/ErrorCodeForCodePinLaw" = some m.cls := findClass_of_methodNamed Bd.named
  have hnm := (name_of_methodNamed Bd.named Bd.method).1
  have X0 : Stand p l e ({ frames := 0, cells := 0, slots := 0, locals := 0 } : Room) s m #[(.int (-103 : Int32))] below meth c s₁ [] 0 0 := Stand.of_body Bd
  have e0 : s₁.heap = h0 := by rw [← hh, Bd.state]; rfl
  have N0 := Fr.nil n0
  have pre0 : ∀ t, Steps p.tables e below (s₁.setTop (mkF m 0 #[.val (.int (-103 : Int32))] [])) t → Steps p.tables e below (s₁.setTop (entryFrame m #[(.int (-103 : Int32))] 1)) t := fun t k => castTop (ef_8_5 m (-103 : Int32)) k
  obtain ⟨T1, X1, e1, st1⟩ := getS2 X0 hx hZ hown (host := "") (Or.inl (hw _ (List.mem_of_getElem? (i := 70) rfl))) Via.refl e0 (S_n6.ext O0.2) (g := (mkF m 64 #[.val (.int (-103 : Int32))] [])) rfl (hb hby d8_64)
  obtain ⟨fs, hr, hrun, hended, hW, hsame⟩ := X1.leave (v := some (.ref w_n6)) (fun h => by rw [Bd.returns] at h; cases h)
  refine ⟨_, _, pre0 _ ?_, hrun, hended, _, _, rfl, ?_, ⟨_, rfl⟩, hW, hsame.mono (by decide) (by decide)⟩
  · show Steps p.tables e below (s₁.setTop (mkF m 0 #[.val (.int (-103 : Int32))] [])) _
    refine XS.iloadN X0.here hx rfl (hb hby d8_0) rfl ?_
    show Steps p.tables e below (s₁.setTop (mkF m 1 #[.val (.int (-103 : Int32))] [(.int (-103 : Int32))])) _
    refine XS.ifYes X0.here hx rfl (pc0 := 1) (pc' := 8) rfl (hb hby d8_1) rfl ((if0 _ _).trans (feq ((by decide) : ¬ ((-103 : Int32) = (0 : Int32)))).2) (by decide) (by decide) ?_
    show Steps p.tables e below (s₁.setTop (mkF m 8 #[.val (.int (-103 : Int32))] [])) _
    refine XS.iloadN X0.here hx rfl (hb hby d8_8) rfl ?_
    show Steps p.tables e below (s₁.setTop (mkF m 9 #[.val (.int (-103 : Int32))] [(.int (-103 : Int32))])) _
    refine XS.bipush X0.here hx rfl (hb hby d8_9) ?_
    show Steps p.tables e below (s₁.setTop (mkF m 11 #[.val (.int (-103 : Int32))] [(.int (-2 : Int32)), (.int (-103 : Int32))])) _
    refine XS.icmpYes X0.here hx rfl (pc0 := 11) (pc' := 18) rfl (hb hby d8_11) rfl (feq ((by decide) : ¬ ((-103 : Int32) = (-2 : Int32)))).2 (by decide) (by decide) ?_
    show Steps p.tables e below (s₁.setTop (mkF m 18 #[.val (.int (-103 : Int32))] [])) _
    refine XS.iloadN X0.here hx rfl (hb hby d8_18) rfl ?_
    show Steps p.tables e below (s₁.setTop (mkF m 19 #[.val (.int (-103 : Int32))] [(.int (-103 : Int32))])) _
    refine XS.bipush X0.here hx rfl (hb hby d8_19) ?_
    show Steps p.tables e below (s₁.setTop (mkF m 21 #[.val (.int (-103 : Int32))] [(.int (-5 : Int32)), (.int (-103 : Int32))])) _
    refine XS.icmpYes X0.here hx rfl (pc0 := 21) (pc' := 28) rfl (hb hby d8_21) rfl (feq ((by decide) : ¬ ((-103 : Int32) = (-5 : Int32)))).2 (by decide) (by decide) ?_
    show Steps p.tables e below (s₁.setTop (mkF m 28 #[.val (.int (-103 : Int32))] [])) _
    refine XS.iloadN X0.here hx rfl (hb hby d8_28) rfl ?_
    show Steps p.tables e below (s₁.setTop (mkF m 29 #[.val (.int (-103 : Int32))] [(.int (-103 : Int32))])) _
    refine XS.bipush X0.here hx rfl (hb hby d8_29) ?_
    show Steps p.tables e below (s₁.setTop (mkF m 31 #[.val (.int (-103 : Int32))] [(.int (-6 : Int32)), (.int (-103 : Int32))])) _
    refine XS.icmpYes X0.here hx rfl (pc0 := 31) (pc' := 38) rfl (hb hby d8_31) rfl (feq ((by decide) : ¬ ((-103 : Int32) = (-6 : Int32)))).2 (by decide) (by decide) ?_
    show Steps p.tables e below (s₁.setTop (mkF m 38 #[.val (.int (-103 : Int32))] [])) _
    refine XS.iloadN X0.here hx rfl (hb hby d8_38) rfl ?_
    show Steps p.tables e below (s₁.setTop (mkF m 39 #[.val (.int (-103 : Int32))] [(.int (-103 : Int32))])) _
    refine XS.bipush X0.here hx rfl (hb hby d8_39) ?_
    show Steps p.tables e below (s₁.setTop (mkF m 41 #[.val (.int (-103 : Int32))] [(.int (-8 : Int32)), (.int (-103 : Int32))])) _
    refine XS.icmpYes X0.here hx rfl (pc0 := 41) (pc' := 48) rfl (hb hby d8_41) rfl (feq ((by decide) : ¬ ((-103 : Int32) = (-8 : Int32)))).2 (by decide) (by decide) ?_
    show Steps p.tables e below (s₁.setTop (mkF m 48 #[.val (.int (-103 : Int32))] [])) _
    refine XS.iloadN X0.here hx rfl (hb hby d8_48) rfl ?_
    show Steps p.tables e below (s₁.setTop (mkF m 49 #[.val (.int (-103 : Int32))] [(.int (-103 : Int32))])) _
    refine XS.bipush X0.here hx rfl (hb hby d8_49) ?_
    show Steps p.tables e below (s₁.setTop (mkF m 51 #[.val (.int (-103 : Int32))] [(.int (-101 : Int32)), (.int (-103 : Int32))])) _
    refine XS.icmpYes X0.here hx rfl (pc0 := 51) (pc' := 58) rfl (hb hby d8_51) rfl (feq ((by decide) : ¬ ((-103 : Int32) = (-101 : Int32)))).2 (by decide) (by decide) ?_
    show Steps p.tables e below (s₁.setTop (mkF m 58 #[.val (.int (-103 : Int32))] [])) _
    refine XS.iloadN X0.here hx rfl (hb hby d8_58) rfl ?_
    show Steps p.tables e below (s₁.setTop (mkF m 59 #[.val (.int (-103 : Int32))] [(.int (-103 : Int32))])) _
    refine XS.bipush X0.here hx rfl (hb hby d8_59) ?_
    show Steps p.tables e below (s₁.setTop (mkF m 61 #[.val (.int (-103 : Int32))] [(.int (-103 : Int32)), (.int (-103 : Int32))])) _
    refine XS.icmpNo X0.here hx rfl (hb hby d8_61) rfl (teq ((by decide) : (-103 : Int32) = (-103 : Int32))).2 ?_
    show Steps p.tables e below (s₁.setTop (mkF m 64 #[.val (.int (-103 : Int32))] [])) _
    refine st1 _ ?_
    show Steps p.tables e below (T1.setTop (mkF m 67 #[.val (.int (-103 : Int32))] [(.ref w_n6)])) _
    jvm_step X1.here [X1.here.top, hx, (hb hby d8_67), X1.method', Bd.returns, Value.isRef, FieldType.isReference]
    first | (intro acts; rw [hr _ acts rfl rfl rfl]) | rw [hr _ _ rfl rfl rfl]
    exact Steps.refl _
  · show QP (some (.ref w_n6)) h0 n0 _ T1.heap _
    rw [e1]
    exact ⟨rfl, N0, rfl⟩
theorem d1_53 : decode method_3_code 53 = .ok (.iload_n 0, 1) := by decide +kernel
theorem d1_54 : decode method_3_code 54 = .ok (.bipush 6, 2) := by decide +kernel
theorem d1_56 : decode method_3_code 56 = .ok (.if_icmp .ne 7, 3) := by decide +kernel
theorem d1_59 : decode method_3_code 59 = .ok (.getstatic 28, 3) := by decide +kernel
theorem d1_62 : decode method_3_code 62 = .ok (.areturn, 1) := by decide +kernel
set_option maxRecDepth 65536 in
set_option maxHeartbeats 40000000 in
theorem rm_pk6 (l : Launch) (Z : State) (a0 : Array Value) (hw : ∀ d ∈ tables_1, d.before a0 Z = true) (ws : List Jvm.Cond) {w_n5 : Addr} {w_n10 : Addr} {w_OK : Addr} {w_n1 : Addr} {w_n2 : Addr} {w_n4 : Addr} {w_n9 : Addr} {w_n6 : Addr} {w_n0 : Addr} {w_n7 : Addr} {w_n8 : Addr} {w_n3 : Addr} {w_n11 : Addr} {k_n10 : ClassId} (W : Wd Z w_n5 w_n10 w_OK w_n1 w_n2 w_n4 w_n9 w_n6 w_n0 w_n7 w_n8 w_n3 w_n11 k_n10) (h0 : Heap) (n0 : Nat) (O0 : Old Z n0 h0) :
    MetFree l (⟨"com/example/usher/usher/wire/ErrorCodeForCodePinLaw", "pick", "(I)Lcom/example/usher/usher/wire/ErrorCode;"⟩ : MethodName) (head1 (Jvm.Cond.code (⟨"com/example/usher/usher/wire/ErrorCodeForCodePinLaw", "pick", "(I)Lcom/example/usher/usher/wire/ErrorCode;"⟩ : MethodName) method_3_code 1 (some (.object "com/example/usher/usher/wire/ErrorCode")) :: ws) ({ frames := 0, cells := 0, slots := 0, locals := 0 } : Room)) (fun a U => a = #[(.int (6 : Int32))] ∧ Z.Warmed39 U.vm ∧ U.heap = h0) (fun _ _ _ _ _ => True) (fun _ U o U' => ∃ v L, o = .returned v ∧ QP (some (.ref w_n6)) h0 n0 v U'.heap L ∧ FrameEnd U o U' L ({ frames := 0, cells := 0, slots := 0, locals := 0 } : Room).cells ({ frames := 0, cells := 0, slots := 0, locals := 0 } : Room).slots) := by
  have W' := W; obtain ⟨S_n5, E_n5, S_n10, S_OK, E_OK, S_n1, E_n1, S_n2, E_n2, S_n4, E_n4, S_n9, E_n9, S_n6, E_n6, S_n0, E_n0, S_n7, E_n7, S_n8, E_n8, S_n3, E_n3, S_n11, E_n11, F_OK_code, F_n5_code, F_n1_code, F_n2_code, F_n4_code, F_n9_code, F_n6_code, F_n0_code, F_n7_code, F_n8_code, F_n3_code, F_n11_value, V_n10⟩ := W'
  refine MetFree.of_bodySF (plainFor_of_name pn_1) hisR ?_
  intro p e s m args below meth c s₁ Bd hml0 hP hK
  obtain ⟨rfl, hZ, hh⟩ := hP
  have hx := Bd.exec
  have hby := Bd.bytes
  have hml : c.maxLocals = 1 := hml0
  have hown : s.vm.findClass "com/example/usher/usher/wire/ErrorCodeForCodePinLaw" = some m.cls := findClass_of_methodNamed Bd.named
  have hnm := (name_of_methodNamed Bd.named Bd.method).1
  have X0 : Stand p l e ({ frames := 0, cells := 0, slots := 0, locals := 0 } : Room) s m #[(.int (6 : Int32))] below meth c s₁ [] 0 0 := Stand.of_body Bd
  have e0 : s₁.heap = h0 := by rw [← hh, Bd.state]; rfl
  have N0 := Fr.nil n0
  have pre0 : ∀ t, Steps p.tables e below (s₁.setTop (mkF m 0 #[.val (.int (6 : Int32))] [])) t → Steps p.tables e below (s₁.setTop (entryFrame m #[(.int (6 : Int32))] 1)) t := fun t k => castTop (ef_1_6 m (6 : Int32)) k
  obtain ⟨T1, X1, e1, st1⟩ := getS2 X0 hx hZ hown (host := "") (Or.inl (hw _ (List.mem_of_getElem? (i := 70) rfl))) Via.refl e0 (S_n6.ext O0.2) (g := (mkF m 59 #[.val (.int (6 : Int32))] [])) rfl (hb hby d1_59)
  obtain ⟨fs, hr, hrun, hended, hW, hsame⟩ := X1.leave (v := some (.ref w_n6)) (fun h => by rw [Bd.returns] at h; cases h)
  refine ⟨_, _, pre0 _ ?_, hrun, hended, _, _, rfl, ?_, ⟨_, rfl⟩, hW, hsame.mono (by decide) (by decide)⟩
  · show Steps p.tables e below (s₁.setTop (mkF m 0 #[.val (.int (6 : Int32))] [])) _
    refine XS.iloadN X0.here hx rfl (hb hby d1_0) rfl ?_
    show Steps p.tables e below (s₁.setTop (mkF m 1 #[.val (.int (6 : Int32))] [(.int (6 : Int32))])) _
    refine XS.ifYes X0.here hx rfl (pc0 := 1) (pc' := 8) rfl (hb hby d1_1) rfl ((if0 _ _).trans (feq ((by decide) : ¬ ((6 : Int32) = (0 : Int32)))).2) (by decide) (by decide) ?_
    show Steps p.tables e below (s₁.setTop (mkF m 8 #[.val (.int (6 : Int32))] [])) _
    refine XS.iloadN X0.here hx rfl (hb hby d1_8) rfl ?_
    show Steps p.tables e below (s₁.setTop (mkF m 9 #[.val (.int (6 : Int32))] [(.int (6 : Int32))])) _
    refine XS.iconst X0.here hx rfl (hb hby d1_9) ?_
    show Steps p.tables e below (s₁.setTop (mkF m 10 #[.val (.int (6 : Int32))] [(.int (1 : Int32)), (.int (6 : Int32))])) _
    refine XS.icmpYes X0.here hx rfl (pc0 := 10) (pc' := 17) rfl (hb hby d1_10) rfl (feq ((by decide) : ¬ ((6 : Int32) = (1 : Int32)))).2 (by decide) (by decide) ?_
    show Steps p.tables e below (s₁.setTop (mkF m 17 #[.val (.int (6 : Int32))] [])) _
    refine XS.iloadN X0.here hx rfl (hb hby d1_17) rfl ?_
    show Steps p.tables e below (s₁.setTop (mkF m 18 #[.val (.int (6 : Int32))] [(.int (6 : Int32))])) _
    refine XS.iconst X0.here hx rfl (hb hby d1_18) ?_
    show Steps p.tables e below (s₁.setTop (mkF m 19 #[.val (.int (6 : Int32))] [(.int (2 : Int32)), (.int (6 : Int32))])) _
    refine XS.icmpYes X0.here hx rfl (pc0 := 19) (pc' := 26) rfl (hb hby d1_19) rfl (feq ((by decide) : ¬ ((6 : Int32) = (2 : Int32)))).2 (by decide) (by decide) ?_
    show Steps p.tables e below (s₁.setTop (mkF m 26 #[.val (.int (6 : Int32))] [])) _
    refine XS.iloadN X0.here hx rfl (hb hby d1_26) rfl ?_
    show Steps p.tables e below (s₁.setTop (mkF m 27 #[.val (.int (6 : Int32))] [(.int (6 : Int32))])) _
    refine XS.iconst X0.here hx rfl (hb hby d1_27) ?_
    show Steps p.tables e below (s₁.setTop (mkF m 28 #[.val (.int (6 : Int32))] [(.int (3 : Int32)), (.int (6 : Int32))])) _
    refine XS.icmpYes X0.here hx rfl (pc0 := 28) (pc' := 35) rfl (hb hby d1_28) rfl (feq ((by decide) : ¬ ((6 : Int32) = (3 : Int32)))).2 (by decide) (by decide) ?_
    show Steps p.tables e below (s₁.setTop (mkF m 35 #[.val (.int (6 : Int32))] [])) _
    refine XS.iloadN X0.here hx rfl (hb hby d1_35) rfl ?_
    show Steps p.tables e below (s₁.setTop (mkF m 36 #[.val (.int (6 : Int32))] [(.int (6 : Int32))])) _
    refine XS.iconst X0.here hx rfl (hb hby d1_36) ?_
    show Steps p.tables e below (s₁.setTop (mkF m 37 #[.val (.int (6 : Int32))] [(.int (4 : Int32)), (.int (6 : Int32))])) _
    refine XS.icmpYes X0.here hx rfl (pc0 := 37) (pc' := 44) rfl (hb hby d1_37) rfl (feq ((by decide) : ¬ ((6 : Int32) = (4 : Int32)))).2 (by decide) (by decide) ?_
    show Steps p.tables e below (s₁.setTop (mkF m 44 #[.val (.int (6 : Int32))] [])) _
    refine XS.iloadN X0.here hx rfl (hb hby d1_44) rfl ?_
    show Steps p.tables e below (s₁.setTop (mkF m 45 #[.val (.int (6 : Int32))] [(.int (6 : Int32))])) _
    refine XS.iconst X0.here hx rfl (hb hby d1_45) ?_
    show Steps p.tables e below (s₁.setTop (mkF m 46 #[.val (.int (6 : Int32))] [(.int (5 : Int32)), (.int (6 : Int32))])) _
    refine XS.icmpYes X0.here hx rfl (pc0 := 46) (pc' := 53) rfl (hb hby d1_46) rfl (feq ((by decide) : ¬ ((6 : Int32) = (5 : Int32)))).2 (by decide) (by decide) ?_
    show Steps p.tables e below (s₁.setTop (mkF m 53 #[.val (.int (6 : Int32))] [])) _
    refine XS.iloadN X0.here hx rfl (hb hby d1_53) rfl ?_
    show Steps p.tables e below (s₁.setTop (mkF m 54 #[.val (.int (6 : Int32))] [(.int (6 : Int32))])) _
    refine XS.bipush X0.here hx rfl (hb hby d1_54) ?_
    show Steps p.tables e below (s₁.setTop (mkF m 56 #[.val (.int (6 : Int32))] [(.int (6 : Int32)), (.int (6 : Int32))])) _
    refine XS.icmpNo X0.here hx rfl (hb hby d1_56) rfl (teq ((by decide) : (6 : Int32) = (6 : Int32))).2 ?_
    show Steps p.tables e below (s₁.setTop (mkF m 59 #[.val (.int (6 : Int32))] [])) _
    refine st1 _ ?_
    show Steps p.tables e below (T1.setTop (mkF m 62 #[.val (.int (6 : Int32))] [(.ref w_n6)])) _
    jvm_step X1.here [X1.here.top, hx, (hb hby d1_62), X1.method', Bd.returns, Value.isRef, FieldType.isReference]
    first | (intro acts; rw [hr _ acts rfl rfl rfl]) | rw [hr _ _ rfl rfl rfl]
    exact Steps.refl _
  · show QP (some (.ref w_n6)) h0 n0 _ T1.heap _
    rw [e1]
    exact ⟨rfl, N0, rfl⟩
set_option maxRecDepth 65536 in
set_option maxHeartbeats 40000000 in
theorem rm_fc7 (l : Launch) (Z : State) (a0 : Array Value) (hw : ∀ d ∈ tables_1, d.before a0 Z = true) (ws : List Jvm.Cond) {w_n5 : Addr} {w_n10 : Addr} {w_OK : Addr} {w_n1 : Addr} {w_n2 : Addr} {w_n4 : Addr} {w_n9 : Addr} {w_n6 : Addr} {w_n0 : Addr} {w_n7 : Addr} {w_n8 : Addr} {w_n3 : Addr} {w_n11 : Addr} {k_n10 : ClassId} (W : Wd Z w_n5 w_n10 w_OK w_n1 w_n2 w_n4 w_n9 w_n6 w_n0 w_n7 w_n8 w_n3 w_n11 k_n10) (h0 : Heap) (n0 : Nat) (O0 : Old Z n0 h0) :
    MetFree l (⟨"com/example/usher/usher/wire/ErrorCode", "forCode", "(I)Ljava/util/Optional;"⟩ : MethodName) (head1 (Jvm.Cond.code (⟨"com/example/usher/usher/wire/ErrorCode", "forCode", "(I)Ljava/util/Optional;"⟩ : MethodName) prog_14_method_5_code 5 (some (.object "java/util/Optional")) :: ws) ({ frames := 3, cells := 1, slots := 1, locals := 38 } : Room)) (fun a U => a = #[(.int (-108 : Int32))] ∧ Z.Warmed39 U.vm ∧ U.heap = h0) (fun _ _ _ _ _ => True) (fun _ U o U' => ∃ v L, o = .returned v ∧ QW (fun v h => ∃ b19_b1 : Addr, v = some (.ref b19_b1) ∧ Keep h0 h [] ∧ n0 ≤ b19_b1 ∧ h0.size ≤ b19_b1 ∧ Exa Z h b19_b1 "java/util/Optional" ∧ Fld Z h b19_b1 "java/util/Optional" "value" "Ljava/lang/Object;" (.ref w_n0)) n0 v U'.heap L ∧ FrameEnd U o U' L ({ frames := 3, cells := 1, slots := 1, locals := 38 } : Room).cells ({ frames := 3, cells := 1, slots := 1, locals := 38 } : Room).slots) := by
  have W' := W; obtain ⟨S_n5, E_n5, S_n10, S_OK, E_OK, S_n1, E_n1, S_n2, E_n2, S_n4, E_n4, S_n9, E_n9, S_n6, E_n6, S_n0, E_n0, S_n7, E_n7, S_n8, E_n8, S_n3, E_n3, S_n11, E_n11, F_OK_code, F_n5_code, F_n1_code, F_n2_code, F_n4_code, F_n9_code, F_n6_code, F_n0_code, F_n7_code, F_n8_code, F_n3_code, F_n11_value, V_n10⟩ := W'
  refine MetFree.of_bodySF (plainFor_of_name pn_2) hisR ?_
  intro p e s m args below meth c s₁ Bd hml0 hP hK
  obtain ⟨rfl, hZ, hh⟩ := hP
  have hx := Bd.exec
  have hby := Bd.bytes
  have hml : c.maxLocals = 5 := hml0
  have hown : s.vm.findClass "com/example/usher/usher/wire/ErrorCode" = some m.cls := findClass_of_methodNamed Bd.named
  have hnm := (name_of_methodNamed Bd.named Bd.method).1
  have X0 : Stand p l e ({ frames := 3, cells := 1, slots := 1, locals := 38 } : Room) s m #[(.int (-108 : Int32))] below meth c s₁ [] 0 0 := Stand.of_body Bd
  have e0 : s₁.heap = h0 := by rw [← hh, Bd.state]; rfl
  have N0 := Fr.nil n0
  have pre0 : ∀ t, Steps p.tables e below (s₁.setTop (mkF m 0 #[.val (.int (-108 : Int32)), .unset, .unset, .unset, .unset] [])) t → Steps p.tables e below (s₁.setTop (entryFrame m #[(.int (-108 : Int32))] 5)) t := fun t k => castTop (ef_2_4 m (-108 : Int32)) k
  obtain ⟨T1, X1, e1, st1⟩ := getS2 X0 hx hZ hown (host := "") (Or.inl (hw _ (List.mem_of_getElem? (i := 11) rfl))) Via.refl e0 (S_n10.ext O0.2) (g := (mkF m 0 #[.val (.int (-108 : Int32)), .unset, .unset, .unset, .unset] [])) rfl (hb hby d2_0)
  obtain ⟨cl2, Ar2, qk2, Sz2, Nz2, Hs2, Gs2⟩ := id (V_n10.ext O0.2)
  obtain ⟨cl3, Ar3, qk3, Sz3, Nz3, Hs3, Gs3⟩ := id (V_n10.ext O0.2)
  have hin3 : ¬ ((0 : Int32) < 0 ∨ cl3.slots.size ≤ ((0 : Int32)).toNatClampNeg) := inb_of Sz3 ⟨by decide, by decide⟩
  have hat3 : cl3.slots[((0 : Int32)).toNatClampNeg]? = some (.ref w_OK) := Has.at Hs3 hin3 rfl
  obtain ⟨T4, X4, e4, st4⟩ := getF X1 hx hZ hown (host := "") (Or.inl (hw _ (List.mem_of_getElem? (i := 14) rfl))) Via.refl e1 (F_OK_code.ext O0.2) (g := (mkF m 21 #[.val (.int (-108 : Int32)), .val (.ref w_n10), .val (.int (11 : Int32)), .val (.int (0 : Int32)), .val (.ref w_OK)] [(.ref w_OK)])) rfl rfl (hb hby d2_21)
  obtain ⟨cl5, Ar5, qk5, Sz5, Nz5, Hs5, Gs5⟩ := id (V_n10.ext O0.2)
  have hin5 : ¬ ((1 : Int32) < 0 ∨ cl5.slots.size ≤ ((1 : Int32)).toNatClampNeg) := inb_of Sz5 ⟨by decide, by decide⟩
  have hat5 : cl5.slots[((1 : Int32)).toNatClampNeg]? = some (.ref w_n1) := Has.at Hs5 hin5 rfl
  obtain ⟨T6, X6, e6, st6⟩ := getF X4 hx hZ hown (host := "") (Or.inl (hw _ (List.mem_of_getElem? (i := 14) rfl))) Via.refl e4 (F_n1_code.ext O0.2) (g := (mkF m 21 #[.val (.int (-108 : Int32)), .val (.ref w_n10), .val (.int (11 : Int32)), .val (.int (1 : Int32)), .val (.ref w_n1)] [(.ref w_n1)])) rfl rfl (hb hby d2_21)
  obtain ⟨cl7, Ar7, qk7, Sz7, Nz7, Hs7, Gs7⟩ := id (V_n10.ext O0.2)
  have hin7 : ¬ ((2 : Int32) < 0 ∨ cl7.slots.size ≤ ((2 : Int32)).toNatClampNeg) := inb_of Sz7 ⟨by decide, by decide⟩
  have hat7 : cl7.slots[((2 : Int32)).toNatClampNeg]? = some (.ref w_n2) := Has.at Hs7 hin7 rfl
  obtain ⟨T8, X8, e8, st8⟩ := getF X6 hx hZ hown (host := "") (Or.inl (hw _ (List.mem_of_getElem? (i := 14) rfl))) Via.refl e6 (F_n2_code.ext O0.2) (g := (mkF m 21 #[.val (.int (-108 : Int32)), .val (.ref w_n10), .val (.int (11 : Int32)), .val (.int (2 : Int32)), .val (.ref w_n2)] [(.ref w_n2)])) rfl rfl (hb hby d2_21)
  obtain ⟨cl9, Ar9, qk9, Sz9, Nz9, Hs9, Gs9⟩ := id (V_n10.ext O0.2)
  have hin9 : ¬ ((3 : Int32) < 0 ∨ cl9.slots.size ≤ ((3 : Int32)).toNatClampNeg) := inb_of Sz9 ⟨by decide, by decide⟩
  have hat9 : cl9.slots[((3 : Int32)).toNatClampNeg]? = some (.ref w_n5) := Has.at Hs9 hin9 rfl
  obtain ⟨T10, X10, e10, st10⟩ := getF X8 hx hZ hown (host := "") (Or.inl (hw _ (List.mem_of_getElem? (i := 14) rfl))) Via.refl e8 (F_n5_code.ext O0.2) (g := (mkF m 21 #[.val (.int (-108 : Int32)), .val (.ref w_n10), .val (.int (11 : Int32)), .val (.int (3 : Int32)), .val (.ref w_n5)] [(.ref w_n5)])) rfl rfl (hb hby d2_21)
  obtain ⟨cl11, Ar11, qk11, Sz11, Nz11, Hs11, Gs11⟩ := id (V_n10.ext O0.2)
  have hin11 : ¬ ((4 : Int32) < 0 ∨ cl11.slots.size ≤ ((4 : Int32)).toNatClampNeg) := inb_of Sz11 ⟨by decide, by decide⟩
  have hat11 : cl11.slots[((4 : Int32)).toNatClampNeg]? = some (.ref w_n4) := Has.at Hs11 hin11 rfl
  obtain ⟨T12, X12, e12, st12⟩ := getF X10 hx hZ hown (host := "") (Or.inl (hw _ (List.mem_of_getElem? (i := 14) rfl))) Via.refl e10 (F_n4_code.ext O0.2) (g := (mkF m 21 #[.val (.int (-108 : Int32)), .val (.ref w_n10), .val (.int (11 : Int32)), .val (.int (4 : Int32)), .val (.ref w_n4)] [(.ref w_n4)])) rfl rfl (hb hby d2_21)
  obtain ⟨cl13, Ar13, qk13, Sz13, Nz13, Hs13, Gs13⟩ := id (V_n10.ext O0.2)
  have hin13 : ¬ ((5 : Int32) < 0 ∨ cl13.slots.size ≤ ((5 : Int32)).toNatClampNeg) := inb_of Sz13 ⟨by decide, by decide⟩
  have hat13 : cl13.slots[((5 : Int32)).toNatClampNeg]? = some (.ref w_n9) := Has.at Hs13 hin13 rfl
  obtain ⟨T14, X14, e14, st14⟩ := getF X12 hx hZ hown (host := "") (Or.inl (hw _ (List.mem_of_getElem? (i := 14) rfl))) Via.refl e12 (F_n9_code.ext O0.2) (g := (mkF m 21 #[.val (.int (-108 : Int32)), .val (.ref w_n10), .val (.int (11 : Int32)), .val (.int (5 : Int32)), .val (.ref w_n9)] [(.ref w_n9)])) rfl rfl (hb hby d2_21)
  obtain ⟨cl15, Ar15, qk15, Sz15, Nz15, Hs15, Gs15⟩ := id (V_n10.ext O0.2)
  have hin15 : ¬ ((6 : Int32) < 0 ∨ cl15.slots.size ≤ ((6 : Int32)).toNatClampNeg) := inb_of Sz15 ⟨by decide, by decide⟩
  have hat15 : cl15.slots[((6 : Int32)).toNatClampNeg]? = some (.ref w_n6) := Has.at Hs15 hin15 rfl
  obtain ⟨T16, X16, e16, st16⟩ := getF X14 hx hZ hown (host := "") (Or.inl (hw _ (List.mem_of_getElem? (i := 14) rfl))) Via.refl e14 (F_n6_code.ext O0.2) (g := (mkF m 21 #[.val (.int (-108 : Int32)), .val (.ref w_n10), .val (.int (11 : Int32)), .val (.int (6 : Int32)), .val (.ref w_n6)] [(.ref w_n6)])) rfl rfl (hb hby d2_21)
  obtain ⟨cl17, Ar17, qk17, Sz17, Nz17, Hs17, Gs17⟩ := id (V_n10.ext O0.2)
  have hin17 : ¬ ((7 : Int32) < 0 ∨ cl17.slots.size ≤ ((7 : Int32)).toNatClampNeg) := inb_of Sz17 ⟨by decide, by decide⟩
  have hat17 : cl17.slots[((7 : Int32)).toNatClampNeg]? = some (.ref w_n0) := Has.at Hs17 hin17 rfl
  obtain ⟨T18, X18, e18, st18⟩ := getF X16 hx hZ hown (host := "") (Or.inl (hw _ (List.mem_of_getElem? (i := 14) rfl))) Via.refl e16 (F_n0_code.ext O0.2) (g := (mkF m 21 #[.val (.int (-108 : Int32)), .val (.ref w_n10), .val (.int (11 : Int32)), .val (.int (7 : Int32)), .val (.ref w_n0)] [(.ref w_n0)])) rfl rfl (hb hby d2_21)
  obtain ⟨_, _, ⟨T19, L19, k19, n19⟩, -, X19, ⟨Lc19, hQ19, l19, y19, z19⟩, st19⟩ := Jvm.LawKit.callS X18 hx (y := (⟨"java/util/Optional", "of", "(Ljava/lang/Object;)Ljava/util/Optional;"⟩ : MethodName)) hown (mvT hZ (hw _ (List.mem_of_getElem? (i := 16) rfl))) (mvT hZ (hw _ (List.mem_of_getElem? (i := 17) rfl))) (mvT hZ (hw _ (List.mem_of_getElem? (i := 18) rfl))) (mvT hZ (hw _ (List.mem_of_getElem? (i := 19) rfl))) (by decide) (backOf (W := 0) (rm_of l Z a0 hw [] W w_n0 h0 n0 O0 ) hZ (hw _ (List.mem_of_getElem? (i := 19) rfl)) (hw _ (List.mem_of_getElem? (i := 18) rfl)) (by decide) (by decide)) (g := (mkF m 30 #[.val (.int (-108 : Int32)), .val (.ref w_n10), .val (.int (11 : Int32)), .val (.int (7 : Int32)), .val (.ref w_n0)] [(.ref w_n0)])) rfl (by rw [hml]; rfl) (argsL := [(.ref w_n0)]) (rest := []) (lenOf pd_2 rfl) rfl (by show 2 * 0 + _ ≤ _; exact Nat.le_of_eq rfl) (hb hby d2_30) (fun _ _ => ⟨rfl, e18, (by decide : 0 + 1 ≤ _), (by decide : 0 + 1 ≤ _)⟩)
  dsimp only [Pt.U, Pt.locs, Pt.cells, Pt.slots] at X19 l19 y19 z19 st19 hQ19
  subst l19 y19 z19
  obtain ⟨N19q, hP19⟩ := hQ19
  have N19 := Fr.app N0 N19q
  obtain ⟨b19_b1, rfl, Kp19, g_b19_b1, si_b19_b1, fp19_0, fp19_1⟩ := hP19
  have O19 := O0.keep Kp19 all0
  have sz_b19_b1 : h0.size ≤ b19_b1 := Nat.le_trans ((Keep.refl h0 [])).1 si_b19_b1
  have K19 : Keep h0 T19.heap [] := (Keep.refl h0 []).trans Kp19 all0
  obtain ⟨fs, hr, hrun, hended, hW, hsame⟩ := X19.leave (v := some (.ref b19_b1)) (fun h => by rw [Bd.returns] at h; cases h)
  refine ⟨_, _, pre0 _ ?_, hrun, hended, _, _, rfl, ?_, ⟨_, rfl⟩, hW, hsame.mono (by decide) (by decide)⟩
  · show Steps p.tables e below (s₁.setTop (mkF m 0 #[.val (.int (-108 : Int32)), .unset, .unset, .unset, .unset] [])) _
    refine st1 _ ?_
    show Steps p.tables e below (T1.setTop (mkF m 3 #[.val (.int (-108 : Int32)), .unset, .unset, .unset, .unset] [(.ref w_n10)])) _
    refine XS.astoreN X1.here hx rfl (hb hby d2_3) rfl rfl (l' := #[.val (.int (-108 : Int32)), .val (.ref w_n10), .unset, .unset, .unset]) rfl ?_
    show Steps p.tables e below (T1.setTop (mkF m 4 #[.val (.int (-108 : Int32)), .val (.ref w_n10), .unset, .unset, .unset] [])) _
    refine XS.aloadN X1.here hx rfl (hb hby d2_4) rfl rfl ?_
    show Steps p.tables e below (T1.setTop (mkF m 5 #[.val (.int (-108 : Int32)), .val (.ref w_n10), .unset, .unset, .unset] [(.ref w_n10)])) _
    refine X1.arraylength hx (by rw [e1]; exact Ar2.1) (State.isArrayOf_alike hZ.alike Ar2.2.1) (g := (mkF m 5 #[.val (.int (-108 : Int32)), .val (.ref w_n10), .unset, .unset, .unset] [(.ref w_n10)])) rfl rfl (hb hby d2_5) _ ?_
    rw [len_of Sz2 Nz2]
    show Steps p.tables e below (T1.setTop (mkF m 6 #[.val (.int (-108 : Int32)), .val (.ref w_n10), .unset, .unset, .unset] [(.int (11 : Int32))])) _
    refine XS.istoreN X1.here hx rfl (hb hby d2_6) rfl (l' := #[.val (.int (-108 : Int32)), .val (.ref w_n10), .val (.int (11 : Int32)), .unset, .unset]) rfl ?_
    show Steps p.tables e below (T1.setTop (mkF m 7 #[.val (.int (-108 : Int32)), .val (.ref w_n10), .val (.int (11 : Int32)), .unset, .unset] [])) _
    refine XS.iconst X1.here hx rfl (hb hby d2_7) ?_
    show Steps p.tables e below (T1.setTop (mkF m 8 #[.val (.int (-108 : Int32)), .val (.ref w_n10), .val (.int (11 : Int32)), .unset, .unset] [(.int (0 : Int32))])) _
    refine XS.istoreN X1.here hx rfl (hb hby d2_8) rfl (l' := #[.val (.int (-108 : Int32)), .val (.ref w_n10), .val (.int (11 : Int32)), .val (.int (0 : Int32)), .unset]) rfl ?_
    show Steps p.tables e below (T1.setTop (mkF m 9 #[.val (.int (-108 : Int32)), .val (.ref w_n10), .val (.int (11 : Int32)), .val (.int (0 : Int32)), .unset] [])) _
    refine XS.iloadN X1.here hx rfl (hb hby d2_9) rfl ?_
    show Steps p.tables e below (T1.setTop (mkF m 10 #[.val (.int (-108 : Int32)), .val (.ref w_n10), .val (.int (11 : Int32)), .val (.int (0 : Int32)), .unset] [(.int (0 : Int32))])) _
    refine XS.iloadN X1.here hx rfl (hb hby d2_10) rfl ?_
    show Steps p.tables e below (T1.setTop (mkF m 11 #[.val (.int (-108 : Int32)), .val (.ref w_n10), .val (.int (11 : Int32)), .val (.int (0 : Int32)), .unset] [(.int (11 : Int32)), (.int (0 : Int32))])) _
    refine XS.icmpNo X1.here hx rfl (hb hby d2_11) rfl (tlt ((by decide) : (0 : Int32) < (11 : Int32))).2.1 ?_
    show Steps p.tables e below (T1.setTop (mkF m 14 #[.val (.int (-108 : Int32)), .val (.ref w_n10), .val (.int (11 : Int32)), .val (.int (0 : Int32)), .unset] [])) _
    refine XS.aloadN X1.here hx rfl (hb hby d2_14) rfl rfl ?_
    show Steps p.tables e below (T1.setTop (mkF m 15 #[.val (.int (-108 : Int32)), .val (.ref w_n10), .val (.int (11 : Int32)), .val (.int (0 : Int32)), .unset] [(.ref w_n10)])) _
    refine XS.iloadN X1.here hx rfl (hb hby d2_15) rfl ?_
    show Steps p.tables e below (T1.setTop (mkF m 16 #[.val (.int (-108 : Int32)), .val (.ref w_n10), .val (.int (11 : Int32)), .val (.int (0 : Int32)), .unset] [(.int (0 : Int32)), (.ref w_n10)])) _
    refine X1.aaload hx (j := (0 : Int32)) (v := (.ref w_OK)) (by rw [e1]; exact Ar3.1) (State.isArrayOf_alike hZ.alike Ar3.2.1) rfl Ar3.2.2 hin3 hat3 (g := (mkF m 16 #[.val (.int (-108 : Int32)), .val (.ref w_n10), .val (.int (11 : Int32)), .val (.int (0 : Int32)), .unset] [(.int (0 : Int32)), (.ref w_n10)])) rfl rfl (hb hby d2_16) _ ?_
    show Steps p.tables e below (T1.setTop (mkF m 17 #[.val (.int (-108 : Int32)), .val (.ref w_n10), .val (.int (11 : Int32)), .val (.int (0 : Int32)), .unset] [(.ref w_OK)])) _
    refine XS.astore X1.here hx rfl (hb hby d2_17) rfl rfl (l' := #[.val (.int (-108 : Int32)), .val (.ref w_n10), .val (.int (11 : Int32)), .val (.int (0 : Int32)), .val (.ref w_OK)]) rfl ?_
    show Steps p.tables e below (T1.setTop (mkF m 19 #[.val (.int (-108 : Int32)), .val (.ref w_n10), .val (.int (11 : Int32)), .val (.int (0 : Int32)), .val (.ref w_OK)] [])) _
    refine XS.aload X1.here hx rfl (hb hby d2_19) rfl rfl ?_
    show Steps p.tables e below (T1.setTop (mkF m 21 #[.val (.int (-108 : Int32)), .val (.ref w_n10), .val (.int (11 : Int32)), .val (.int (0 : Int32)), .val (.ref w_OK)] [(.ref w_OK)])) _
    refine st4 _ ?_
    show Steps p.tables e below (T4.setTop (mkF m 24 #[.val (.int (-108 : Int32)), .val (.ref w_n10), .val (.int (11 : Int32)), .val (.int (0 : Int32)), .val (.ref w_OK)] [(.int (0 : Int32))])) _
    refine XS.iloadN X4.here hx rfl (hb hby d2_24) rfl ?_
    show Steps p.tables e below (T4.setTop (mkF m 25 #[.val (.int (-108 : Int32)), .val (.ref w_n10), .val (.int (11 : Int32)), .val (.int (0 : Int32)), .val (.ref w_OK)] [(.int (-108 : Int32)), (.int (0 : Int32))])) _
    refine XS.icmpYes X4.here hx rfl (pc0 := 25) (pc' := 34) rfl (hb hby d2_25) rfl (feq ((by decide) : ¬ ((0 : Int32) = (-108 : Int32)))).2 (by decide) (by decide) ?_
    show Steps p.tables e below (T4.setTop (mkF m 34 #[.val (.int (-108 : Int32)), .val (.ref w_n10), .val (.int (11 : Int32)), .val (.int (0 : Int32)), .val (.ref w_OK)] [])) _
    refine XS.iinc X4.here hx rfl (hb hby d2_34) rfl (l' := #[.val (.int (-108 : Int32)), .val (.ref w_n10), .val (.int (11 : Int32)), .val (.int ((0 : Int32) + (1 : Int32))), .val (.ref w_OK)]) rfl ?_
    show Steps p.tables e below (T4.setTop (mkF m 37 #[.val (.int (-108 : Int32)), .val (.ref w_n10), .val (.int (11 : Int32)), .val (.int ((0 : Int32) + (1 : Int32))), .val (.ref w_OK)] [])) _
    rw [show ((0 : Int32) + (1 : Int32)) = (1 : Int32) from by decide]
    show Steps p.tables e below (T4.setTop (mkF m 37 #[.val (.int (-108 : Int32)), .val (.ref w_n10), .val (.int (11 : Int32)), .val (.int (1 : Int32)), .val (.ref w_OK)] [])) _
    refine XS.goto X4.here hx rfl (pc0 := 37) (pc' := 9) rfl (hb hby d2_37) (by decide) (by decide) ?_
    show Steps p.tables e below (T4.setTop (mkF m 9 #[.val (.int (-108 : Int32)), .val (.ref w_n10), .val (.int (11 : Int32)), .val (.int (1 : Int32)), .val (.ref w_OK)] [])) _
    refine XS.iloadN X4.here hx rfl (hb hby d2_9) rfl ?_
    show Steps p.tables e below (T4.setTop (mkF m 10 #[.val (.int (-108 : Int32)), .val (.ref w_n10), .val (.int (11 : Int32)), .val (.int (1 : Int32)), .val (.ref w_OK)] [(.int (1 : Int32))])) _
    refine XS.iloadN X4.here hx rfl (hb hby d2_10) rfl ?_
    show Steps p.tables e below (T4.setTop (mkF m 11 #[.val (.int (-108 : Int32)), .val (.ref w_n10), .val (.int (11 : Int32)), .val (.int (1 : Int32)), .val (.ref w_OK)] [(.int (11 : Int32)), (.int (1 : Int32))])) _
    refine XS.icmpNo X4.here hx rfl (hb hby d2_11) rfl (tlt ((by decide) : (1 : Int32) < (11 : Int32))).2.1 ?_
    show Steps p.tables e below (T4.setTop (mkF m 14 #[.val (.int (-108 : Int32)), .val (.ref w_n10), .val (.int (11 : Int32)), .val (.int (1 : Int32)), .val (.ref w_OK)] [])) _
    refine XS.aloadN X4.here hx rfl (hb hby d2_14) rfl rfl ?_
    show Steps p.tables e below (T4.setTop (mkF m 15 #[.val (.int (-108 : Int32)), .val (.ref w_n10), .val (.int (11 : Int32)), .val (.int (1 : Int32)), .val (.ref w_OK)] [(.ref w_n10)])) _
    refine XS.iloadN X4.here hx rfl (hb hby d2_15) rfl ?_
    show Steps p.tables e below (T4.setTop (mkF m 16 #[.val (.int (-108 : Int32)), .val (.ref w_n10), .val (.int (11 : Int32)), .val (.int (1 : Int32)), .val (.ref w_OK)] [(.int (1 : Int32)), (.ref w_n10)])) _
    refine X4.aaload hx (j := (1 : Int32)) (v := (.ref w_n1)) (by rw [e4]; exact Ar5.1) (State.isArrayOf_alike hZ.alike Ar5.2.1) rfl Ar5.2.2 hin5 hat5 (g := (mkF m 16 #[.val (.int (-108 : Int32)), .val (.ref w_n10), .val (.int (11 : Int32)), .val (.int (1 : Int32)), .val (.ref w_OK)] [(.int (1 : Int32)), (.ref w_n10)])) rfl rfl (hb hby d2_16) _ ?_
    show Steps p.tables e below (T4.setTop (mkF m 17 #[.val (.int (-108 : Int32)), .val (.ref w_n10), .val (.int (11 : Int32)), .val (.int (1 : Int32)), .val (.ref w_OK)] [(.ref w_n1)])) _
    refine XS.astore X4.here hx rfl (hb hby d2_17) rfl rfl (l' := #[.val (.int (-108 : Int32)), .val (.ref w_n10), .val (.int (11 : Int32)), .val (.int (1 : Int32)), .val (.ref w_n1)]) rfl ?_
    show Steps p.tables e below (T4.setTop (mkF m 19 #[.val (.int (-108 : Int32)), .val (.ref w_n10), .val (.int (11 : Int32)), .val (.int (1 : Int32)), .val (.ref w_n1)] [])) _
    refine XS.aload X4.here hx rfl (hb hby d2_19) rfl rfl ?_
    show Steps p.tables e below (T4.setTop (mkF m 21 #[.val (.int (-108 : Int32)), .val (.ref w_n10), .val (.int (11 : Int32)), .val (.int (1 : Int32)), .val (.ref w_n1)] [(.ref w_n1)])) _
    refine st6 _ ?_
    show Steps p.tables e below (T6.setTop (mkF m 24 #[.val (.int (-108 : Int32)), .val (.ref w_n10), .val (.int (11 : Int32)), .val (.int (1 : Int32)), .val (.ref w_n1)] [(.int (-2 : Int32))])) _
    refine XS.iloadN X6.here hx rfl (hb hby d2_24) rfl ?_
    show Steps p.tables e below (T6.setTop (mkF m 25 #[.val (.int (-108 : Int32)), .val (.ref w_n10), .val (.int (11 : Int32)), .val (.int (1 : Int32)), .val (.ref w_n1)] [(.int (-108 : Int32)), (.int (-2 : Int32))])) _
    refine XS.icmpYes X6.here hx rfl (pc0 := 25) (pc' := 34) rfl (hb hby d2_25) rfl (feq ((by decide) : ¬ ((-2 : Int32) = (-108 : Int32)))).2 (by decide) (by decide) ?_
    show Steps p.tables e below (T6.setTop (mkF m 34 #[.val (.int (-108 : Int32)), .val (.ref w_n10), .val (.int (11 : Int32)), .val (.int (1 : Int32)), .val (.ref w_n1)] [])) _
    refine XS.iinc X6.here hx rfl (hb hby d2_34) rfl (l' := #[.val (.int (-108 : Int32)), .val (.ref w_n10), .val (.int (11 : Int32)), .val (.int ((1 : Int32) + (1 : Int32))), .val (.ref w_n1)]) rfl ?_
    show Steps p.tables e below (T6.setTop (mkF m 37 #[.val (.int (-108 : Int32)), .val (.ref w_n10), .val (.int (11 : Int32)), .val (.int ((1 : Int32) + (1 : Int32))), .val (.ref w_n1)] [])) _
    rw [show ((1 : Int32) + (1 : Int32)) = (2 : Int32) from by decide]
    show Steps p.tables e below (T6.setTop (mkF m 37 #[.val (.int (-108 : Int32)), .val (.ref w_n10), .val (.int (11 : Int32)), .val (.int (2 : Int32)), .val (.ref w_n1)] [])) _
    refine XS.goto X6.here hx rfl (pc0 := 37) (pc' := 9) rfl (hb hby d2_37) (by decide) (by decide) ?_
    show Steps p.tables e below (T6.setTop (mkF m 9 #[.val (.int (-108 : Int32)), .val (.ref w_n10), .val (.int (11 : Int32)), .val (.int (2 : Int32)), .val (.ref w_n1)] [])) _
    refine XS.iloadN X6.here hx rfl (hb hby d2_9) rfl ?_
    show Steps p.tables e below (T6.setTop (mkF m 10 #[.val (.int (-108 : Int32)), .val (.ref w_n10), .val (.int (11 : Int32)), .val (.int (2 : Int32)), .val (.ref w_n1)] [(.int (2 : Int32))])) _
    refine XS.iloadN X6.here hx rfl (hb hby d2_10) rfl ?_
    show Steps p.tables e below (T6.setTop (mkF m 11 #[.val (.int (-108 : Int32)), .val (.ref w_n10), .val (.int (11 : Int32)), .val (.int (2 : Int32)), .val (.ref w_n1)] [(.int (11 : Int32)), (.int (2 : Int32))])) _
    refine XS.icmpNo X6.here hx rfl (hb hby d2_11) rfl (tlt ((by decide) : (2 : Int32) < (11 : Int32))).2.1 ?_
    show Steps p.tables e below (T6.setTop (mkF m 14 #[.val (.int (-108 : Int32)), .val (.ref w_n10), .val (.int (11 : Int32)), .val (.int (2 : Int32)), .val (.ref w_n1)] [])) _
    refine XS.aloadN X6.here hx rfl (hb hby d2_14) rfl rfl ?_
    show Steps p.tables e below (T6.setTop (mkF m 15 #[.val (.int (-108 : Int32)), .val (.ref w_n10), .val (.int (11 : Int32)), .val (.int (2 : Int32)), .val (.ref w_n1)] [(.ref w_n10)])) _
    refine XS.iloadN X6.here hx rfl (hb hby d2_15) rfl ?_
    show Steps p.tables e below (T6.setTop (mkF m 16 #[.val (.int (-108 : Int32)), .val (.ref w_n10), .val (.int (11 : Int32)), .val (.int (2 : Int32)), .val (.ref w_n1)] [(.int (2 : Int32)), (.ref w_n10)])) _
    refine X6.aaload hx (j := (2 : Int32)) (v := (.ref w_n2)) (by rw [e6]; exact Ar7.1) (State.isArrayOf_alike hZ.alike Ar7.2.1) rfl Ar7.2.2 hin7 hat7 (g := (mkF m 16 #[.val (.int (-108 : Int32)), .val (.ref w_n10), .val (.int (11 : Int32)), .val (.int (2 : Int32)), .val (.ref w_n1)] [(.int (2 : Int32)), (.ref w_n10)])) rfl rfl (hb hby d2_16) _ ?_
    show Steps p.tables e below (T6.setTop (mkF m 17 #[.val (.int (-108 : Int32)), .val (.ref w_n10), .val (.int (11 : Int32)), .val (.int (2 : Int32)), .val (.ref w_n1)] [(.ref w_n2)])) _
    refine XS.astore X6.here hx rfl (hb hby d2_17) rfl rfl (l' := #[.val (.int (-108 : Int32)), .val (.ref w_n10), .val (.int (11 : Int32)), .val (.int (2 : Int32)), .val (.ref w_n2)]) rfl ?_
    show Steps p.tables e below (T6.setTop (mkF m 19 #[.val (.int (-108 : Int32)), .val (.ref w_n10), .val (.int (11 : Int32)), .val (.int (2 : Int32)), .val (.ref w_n2)] [])) _
    refine XS.aload X6.here hx rfl (hb hby d2_19) rfl rfl ?_
    show Steps p.tables e below (T6.setTop (mkF m 21 #[.val (.int (-108 : Int32)), .val (.ref w_n10), .val (.int (11 : Int32)), .val (.int (2 : Int32)), .val (.ref w_n2)] [(.ref w_n2)])) _
    refine st8 _ ?_
    show Steps p.tables e below (T8.setTop (mkF m 24 #[.val (.int (-108 : Int32)), .val (.ref w_n10), .val (.int (11 : Int32)), .val (.int (2 : Int32)), .val (.ref w_n2)] [(.int (-5 : Int32))])) _
    refine XS.iloadN X8.here hx rfl (hb hby d2_24) rfl ?_
    show Steps p.tables e below (T8.setTop (mkF m 25 #[.val (.int (-108 : Int32)), .val (.ref w_n10), .val (.int (11 : Int32)), .val (.int (2 : Int32)), .val (.ref w_n2)] [(.int (-108 : Int32)), (.int (-5 : Int32))])) _
    refine XS.icmpYes X8.here hx rfl (pc0 := 25) (pc' := 34) rfl (hb hby d2_25) rfl (feq ((by decide) : ¬ ((-5 : Int32) = (-108 : Int32)))).2 (by decide) (by decide) ?_
    show Steps p.tables e below (T8.setTop (mkF m 34 #[.val (.int (-108 : Int32)), .val (.ref w_n10), .val (.int (11 : Int32)), .val (.int (2 : Int32)), .val (.ref w_n2)] [])) _
    refine XS.iinc X8.here hx rfl (hb hby d2_34) rfl (l' := #[.val (.int (-108 : Int32)), .val (.ref w_n10), .val (.int (11 : Int32)), .val (.int ((2 : Int32) + (1 : Int32))), .val (.ref w_n2)]) rfl ?_
    show Steps p.tables e below (T8.setTop (mkF m 37 #[.val (.int (-108 : Int32)), .val (.ref w_n10), .val (.int (11 : Int32)), .val (.int ((2 : Int32) + (1 : Int32))), .val (.ref w_n2)] [])) _
    rw [show ((2 : Int32) + (1 : Int32)) = (3 : Int32) from by decide]
    show Steps p.tables e below (T8.setTop (mkF m 37 #[.val (.int (-108 : Int32)), .val (.ref w_n10), .val (.int (11 : Int32)), .val (.int (3 : Int32)), .val (.ref w_n2)] [])) _
    refine XS.goto X8.here hx rfl (pc0 := 37) (pc' := 9) rfl (hb hby d2_37) (by decide) (by decide) ?_
    show Steps p.tables e below (T8.setTop (mkF m 9 #[.val (.int (-108 : Int32)), .val (.ref w_n10), .val (.int (11 : Int32)), .val (.int (3 : Int32)), .val (.ref w_n2)] [])) _
    refine XS.iloadN X8.here hx rfl (hb hby d2_9) rfl ?_
    show Steps p.tables e below (T8.setTop (mkF m 10 #[.val (.int (-108 : Int32)), .val (.ref w_n10), .val (.int (11 : Int32)), .val (.int (3 : Int32)), .val (.ref w_n2)] [(.int (3 : Int32))])) _
    refine XS.iloadN X8.here hx rfl (hb hby d2_10) rfl ?_
    show Steps p.tables e below (T8.setTop (mkF m 11 #[.val (.int (-108 : Int32)), .val (.ref w_n10), .val (.int (11 : Int32)), .val (.int (3 : Int32)), .val (.ref w_n2)] [(.int (11 : Int32)), (.int (3 : Int32))])) _
    refine XS.icmpNo X8.here hx rfl (hb hby d2_11) rfl (tlt ((by decide) : (3 : Int32) < (11 : Int32))).2.1 ?_
    show Steps p.tables e below (T8.setTop (mkF m 14 #[.val (.int (-108 : Int32)), .val (.ref w_n10), .val (.int (11 : Int32)), .val (.int (3 : Int32)), .val (.ref w_n2)] [])) _
    refine XS.aloadN X8.here hx rfl (hb hby d2_14) rfl rfl ?_
    show Steps p.tables e below (T8.setTop (mkF m 15 #[.val (.int (-108 : Int32)), .val (.ref w_n10), .val (.int (11 : Int32)), .val (.int (3 : Int32)), .val (.ref w_n2)] [(.ref w_n10)])) _
    refine XS.iloadN X8.here hx rfl (hb hby d2_15) rfl ?_
    show Steps p.tables e below (T8.setTop (mkF m 16 #[.val (.int (-108 : Int32)), .val (.ref w_n10), .val (.int (11 : Int32)), .val (.int (3 : Int32)), .val (.ref w_n2)] [(.int (3 : Int32)), (.ref w_n10)])) _
    refine X8.aaload hx (j := (3 : Int32)) (v := (.ref w_n5)) (by rw [e8]; exact Ar9.1) (State.isArrayOf_alike hZ.alike Ar9.2.1) rfl Ar9.2.2 hin9 hat9 (g := (mkF m 16 #[.val (.int (-108 : Int32)), .val (.ref w_n10), .val (.int (11 : Int32)), .val (.int (3 : Int32)), .val (.ref w_n2)] [(.int (3 : Int32)), (.ref w_n10)])) rfl rfl (hb hby d2_16) _ ?_
    show Steps p.tables e below (T8.setTop (mkF m 17 #[.val (.int (-108 : Int32)), .val (.ref w_n10), .val (.int (11 : Int32)), .val (.int (3 : Int32)), .val (.ref w_n2)] [(.ref w_n5)])) _
    refine XS.astore X8.here hx rfl (hb hby d2_17) rfl rfl (l' := #[.val (.int (-108 : Int32)), .val (.ref w_n10), .val (.int (11 : Int32)), .val (.int (3 : Int32)), .val (.ref w_n5)]) rfl ?_
    show Steps p.tables e below (T8.setTop (mkF m 19 #[.val (.int (-108 : Int32)), .val (.ref w_n10), .val (.int (11 : Int32)), .val (.int (3 : Int32)), .val (.ref w_n5)] [])) _
    refine XS.aload X8.here hx rfl (hb hby d2_19) rfl rfl ?_
    show Steps p.tables e below (T8.setTop (mkF m 21 #[.val (.int (-108 : Int32)), .val (.ref w_n10), .val (.int (11 : Int32)), .val (.int (3 : Int32)), .val (.ref w_n5)] [(.ref w_n5)])) _
    refine st10 _ ?_
    show Steps p.tables e below (T10.setTop (mkF m 24 #[.val (.int (-108 : Int32)), .val (.ref w_n10), .val (.int (11 : Int32)), .val (.int (3 : Int32)), .val (.ref w_n5)] [(.int (-6 : Int32))])) _
    refine XS.iloadN X10.here hx rfl (hb hby d2_24) rfl ?_
    show Steps p.tables e below (T10.setTop (mkF m 25 #[.val (.int (-108 : Int32)), .val (.ref w_n10), .val (.int (11 : Int32)), .val (.int (3 : Int32)), .val (.ref w_n5)] [(.int (-108 : Int32)), (.int (-6 : Int32))])) _
    refine XS.icmpYes X10.here hx rfl (pc0 := 25) (pc' := 34) rfl (hb hby d2_25) rfl (feq ((by decide) : ¬ ((-6 : Int32) = (-108 : Int32)))).2 (by decide) (by decide) ?_
    show Steps p.tables e below (T10.setTop (mkF m 34 #[.val (.int (-108 : Int32)), .val (.ref w_n10), .val (.int (11 : Int32)), .val (.int (3 : Int32)), .val (.ref w_n5)] [])) _
    refine XS.iinc X10.here hx rfl (hb hby d2_34) rfl (l' := #[.val (.int (-108 : Int32)), .val (.ref w_n10), .val (.int (11 : Int32)), .val (.int ((3 : Int32) + (1 : Int32))), .val (.ref w_n5)]) rfl ?_
    show Steps p.tables e below (T10.setTop (mkF m 37 #[.val (.int (-108 : Int32)), .val (.ref w_n10), .val (.int (11 : Int32)), .val (.int ((3 : Int32) + (1 : Int32))), .val (.ref w_n5)] [])) _
    rw [show ((3 : Int32) + (1 : Int32)) = (4 : Int32) from by decide]
    show Steps p.tables e below (T10.setTop (mkF m 37 #[.val (.int (-108 : Int32)), .val (.ref w_n10), .val (.int (11 : Int32)), .val (.int (4 : Int32)), .val (.ref w_n5)] [])) _
    refine XS.goto X10.here hx rfl (pc0 := 37) (pc' := 9) rfl (hb hby d2_37) (by decide) (by decide) ?_
    show Steps p.tables e below (T10.setTop (mkF m 9 #[.val (.int (-108 : Int32)), .val (.ref w_n10), .val (.int (11 : Int32)), .val (.int (4 : Int32)), .val (.ref w_n5)] [])) _
    refine XS.iloadN X10.here hx rfl (hb hby d2_9) rfl ?_
    show Steps p.tables e below (T10.setTop (mkF m 10 #[.val (.int (-108 : Int32)), .val (.ref w_n10), .val (.int (11 : Int32)), .val (.int (4 : Int32)), .val (.ref w_n5)] [(.int (4 : Int32))])) _
    refine XS.iloadN X10.here hx rfl (hb hby d2_10) rfl ?_
    show Steps p.tables e below (T10.setTop (mkF m 11 #[.val (.int (-108 : Int32)), .val (.ref w_n10), .val (.int (11 : Int32)), .val (.int (4 : Int32)), .val (.ref w_n5)] [(.int (11 : Int32)), (.int (4 : Int32))])) _
    refine XS.icmpNo X10.here hx rfl (hb hby d2_11) rfl (tlt ((by decide) : (4 : Int32) < (11 : Int32))).2.1 ?_
    show Steps p.tables e below (T10.setTop (mkF m 14 #[.val (.int (-108 : Int32)), .val (.ref w_n10), .val (.int (11 : Int32)), .val (.int (4 : Int32)), .val (.ref w_n5)] [])) _
    refine XS.aloadN X10.here hx rfl (hb hby d2_14) rfl rfl ?_
    show Steps p.tables e below (T10.setTop (mkF m 15 #[.val (.int (-108 : Int32)), .val (.ref w_n10), .val (.int (11 : Int32)), .val (.int (4 : Int32)), .val (.ref w_n5)] [(.ref w_n10)])) _
    refine XS.iloadN X10.here hx rfl (hb hby d2_15) rfl ?_
    show Steps p.tables e below (T10.setTop (mkF m 16 #[.val (.int (-108 : Int32)), .val (.ref w_n10), .val (.int (11 : Int32)), .val (.int (4 : Int32)), .val (.ref w_n5)] [(.int (4 : Int32)), (.ref w_n10)])) _
    refine X10.aaload hx (j := (4 : Int32)) (v := (.ref w_n4)) (by rw [e10]; exact Ar11.1) (State.isArrayOf_alike hZ.alike Ar11.2.1) rfl Ar11.2.2 hin11 hat11 (g := (mkF m 16 #[.val (.int (-108 : Int32)), .val (.ref w_n10), .val (.int (11 : Int32)), .val (.int (4 : Int32)), .val (.ref w_n5)] [(.int (4 : Int32)), (.ref w_n10)])) rfl rfl (hb hby d2_16) _ ?_
    show Steps p.tables e below (T10.setTop (mkF m 17 #[.val (.int (-108 : Int32)), .val (.ref w_n10), .val (.int (11 : Int32)), .val (.int (4 : Int32)), .val (.ref w_n5)] [(.ref w_n4)])) _
    refine XS.astore X10.here hx rfl (hb hby d2_17) rfl rfl (l' := #[.val (.int (-108 : Int32)), .val (.ref w_n10), .val (.int (11 : Int32)), .val (.int (4 : Int32)), .val (.ref w_n4)]) rfl ?_
    show Steps p.tables e below (T10.setTop (mkF m 19 #[.val (.int (-108 : Int32)), .val (.ref w_n10), .val (.int (11 : Int32)), .val (.int (4 : Int32)), .val (.ref w_n4)] [])) _
    refine XS.aload X10.here hx rfl (hb hby d2_19) rfl rfl ?_
    show Steps p.tables e below (T10.setTop (mkF m 21 #[.val (.int (-108 : Int32)), .val (.ref w_n10), .val (.int (11 : Int32)), .val (.int (4 : Int32)), .val (.ref w_n4)] [(.ref w_n4)])) _
    refine st12 _ ?_
    show Steps p.tables e below (T12.setTop (mkF m 24 #[.val (.int (-108 : Int32)), .val (.ref w_n10), .val (.int (11 : Int32)), .val (.int (4 : Int32)), .val (.ref w_n4)] [(.int (-8 : Int32))])) _
    refine XS.iloadN X12.here hx rfl (hb hby d2_24) rfl ?_
    show Steps p.tables e below (T12.setTop (mkF m 25 #[.val (.int (-108 : Int32)), .val (.ref w_n10), .val (.int (11 : Int32)), .val (.int (4 : Int32)), .val (.ref w_n4)] [(.int (-108 : Int32)), (.int (-8 : Int32))])) _
    refine XS.icmpYes X12.here hx rfl (pc0 := 25) (pc' := 34) rfl (hb hby d2_25) rfl (feq ((by decide) : ¬ ((-8 : Int32) = (-108 : Int32)))).2 (by decide) (by decide) ?_
    show Steps p.tables e below (T12.setTop (mkF m 34 #[.val (.int (-108 : Int32)), .val (.ref w_n10), .val (.int (11 : Int32)), .val (.int (4 : Int32)), .val (.ref w_n4)] [])) _
    refine XS.iinc X12.here hx rfl (hb hby d2_34) rfl (l' := #[.val (.int (-108 : Int32)), .val (.ref w_n10), .val (.int (11 : Int32)), .val (.int ((4 : Int32) + (1 : Int32))), .val (.ref w_n4)]) rfl ?_
    show Steps p.tables e below (T12.setTop (mkF m 37 #[.val (.int (-108 : Int32)), .val (.ref w_n10), .val (.int (11 : Int32)), .val (.int ((4 : Int32) + (1 : Int32))), .val (.ref w_n4)] [])) _
    rw [show ((4 : Int32) + (1 : Int32)) = (5 : Int32) from by decide]
    show Steps p.tables e below (T12.setTop (mkF m 37 #[.val (.int (-108 : Int32)), .val (.ref w_n10), .val (.int (11 : Int32)), .val (.int (5 : Int32)), .val (.ref w_n4)] [])) _
    refine XS.goto X12.here hx rfl (pc0 := 37) (pc' := 9) rfl (hb hby d2_37) (by decide) (by decide) ?_
    show Steps p.tables e below (T12.setTop (mkF m 9 #[.val (.int (-108 : Int32)), .val (.ref w_n10), .val (.int (11 : Int32)), .val (.int (5 : Int32)), .val (.ref w_n4)] [])) _
    refine XS.iloadN X12.here hx rfl (hb hby d2_9) rfl ?_
    show Steps p.tables e below (T12.setTop (mkF m 10 #[.val (.int (-108 : Int32)), .val (.ref w_n10), .val (.int (11 : Int32)), .val (.int (5 : Int32)), .val (.ref w_n4)] [(.int (5 : Int32))])) _
    refine XS.iloadN X12.here hx rfl (hb hby d2_10) rfl ?_
    show Steps p.tables e below (T12.setTop (mkF m 11 #[.val (.int (-108 : Int32)), .val (.ref w_n10), .val (.int (11 : Int32)), .val (.int (5 : Int32)), .val (.ref w_n4)] [(.int (11 : Int32)), (.int (5 : Int32))])) _
    refine XS.icmpNo X12.here hx rfl (hb hby d2_11) rfl (tlt ((by decide) : (5 : Int32) < (11 : Int32))).2.1 ?_
    show Steps p.tables e below (T12.setTop (mkF m 14 #[.val (.int (-108 : Int32)), .val (.ref w_n10), .val (.int (11 : Int32)), .val (.int (5 : Int32)), .val (.ref w_n4)] [])) _
    refine XS.aloadN X12.here hx rfl (hb hby d2_14) rfl rfl ?_
    show Steps p.tables e below (T12.setTop (mkF m 15 #[.val (.int (-108 : Int32)), .val (.ref w_n10), .val (.int (11 : Int32)), .val (.int (5 : Int32)), .val (.ref w_n4)] [(.ref w_n10)])) _
    refine XS.iloadN X12.here hx rfl (hb hby d2_15) rfl ?_
    show Steps p.tables e below (T12.setTop (mkF m 16 #[.val (.int (-108 : Int32)), .val (.ref w_n10), .val (.int (11 : Int32)), .val (.int (5 : Int32)), .val (.ref w_n4)] [(.int (5 : Int32)), (.ref w_n10)])) _
    refine X12.aaload hx (j := (5 : Int32)) (v := (.ref w_n9)) (by rw [e12]; exact Ar13.1) (State.isArrayOf_alike hZ.alike Ar13.2.1) rfl Ar13.2.2 hin13 hat13 (g := (mkF m 16 #[.val (.int (-108 : Int32)), .val (.ref w_n10), .val (.int (11 : Int32)), .val (.int (5 : Int32)), .val (.ref w_n4)] [(.int (5 : Int32)), (.ref w_n10)])) rfl rfl (hb hby d2_16) _ ?_
    show Steps p.tables e below (T12.setTop (mkF m 17 #[.val (.int (-108 : Int32)), .val (.ref w_n10), .val (.int (11 : Int32)), .val (.int (5 : Int32)), .val (.ref w_n4)] [(.ref w_n9)])) _
    refine XS.astore X12.here hx rfl (hb hby d2_17) rfl rfl (l' := #[.val (.int (-108 : Int32)), .val (.ref w_n10), .val (.int (11 : Int32)), .val (.int (5 : Int32)), .val (.ref w_n9)]) rfl ?_
    show Steps p.tables e below (T12.setTop (mkF m 19 #[.val (.int (-108 : Int32)), .val (.ref w_n10), .val (.int (11 : Int32)), .val (.int (5 : Int32)), .val (.ref w_n9)] [])) _
    refine XS.aload X12.here hx rfl (hb hby d2_19) rfl rfl ?_
    show Steps p.tables e below (T12.setTop (mkF m 21 #[.val (.int (-108 : Int32)), .val (.ref w_n10), .val (.int (11 : Int32)), .val (.int (5 : Int32)), .val (.ref w_n9)] [(.ref w_n9)])) _
    refine st14 _ ?_
    show Steps p.tables e below (T14.setTop (mkF m 24 #[.val (.int (-108 : Int32)), .val (.ref w_n10), .val (.int (11 : Int32)), .val (.int (5 : Int32)), .val (.ref w_n9)] [(.int (-101 : Int32))])) _
    refine XS.iloadN X14.here hx rfl (hb hby d2_24) rfl ?_
    show Steps p.tables e below (T14.setTop (mkF m 25 #[.val (.int (-108 : Int32)), .val (.ref w_n10), .val (.int (11 : Int32)), .val (.int (5 : Int32)), .val (.ref w_n9)] [(.int (-108 : Int32)), (.int (-101 : Int32))])) _
    refine XS.icmpYes X14.here hx rfl (pc0 := 25) (pc' := 34) rfl (hb hby d2_25) rfl (feq ((by decide) : ¬ ((-101 : Int32) = (-108 : Int32)))).2 (by decide) (by decide) ?_
    show Steps p.tables e below (T14.setTop (mkF m 34 #[.val (.int (-108 : Int32)), .val (.ref w_n10), .val (.int (11 : Int32)), .val (.int (5 : Int32)), .val (.ref w_n9)] [])) _
    refine XS.iinc X14.here hx rfl (hb hby d2_34) rfl (l' := #[.val (.int (-108 : Int32)), .val (.ref w_n10), .val (.int (11 : Int32)), .val (.int ((5 : Int32) + (1 : Int32))), .val (.ref w_n9)]) rfl ?_
    show Steps p.tables e below (T14.setTop (mkF m 37 #[.val (.int (-108 : Int32)), .val (.ref w_n10), .val (.int (11 : Int32)), .val (.int ((5 : Int32) + (1 : Int32))), .val (.ref w_n9)] [])) _
    rw [show ((5 : Int32) + (1 : Int32)) = (6 : Int32) from by decide]
    show Steps p.tables e below (T14.setTop (mkF m 37 #[.val (.int (-108 : Int32)), .val (.ref w_n10), .val (.int (11 : Int32)), .val (.int (6 : Int32)), .val (.ref w_n9)] [])) _
    refine XS.goto X14.here hx rfl (pc0 := 37) (pc' := 9) rfl (hb hby d2_37) (by decide) (by decide) ?_
    show Steps p.tables e below (T14.setTop (mkF m 9 #[.val (.int (-108 : Int32)), .val (.ref w_n10), .val (.int (11 : Int32)), .val (.int (6 : Int32)), .val (.ref w_n9)] [])) _
    refine XS.iloadN X14.here hx rfl (hb hby d2_9) rfl ?_
    show Steps p.tables e below (T14.setTop (mkF m 10 #[.val (.int (-108 : Int32)), .val (.ref w_n10), .val (.int (11 : Int32)), .val (.int (6 : Int32)), .val (.ref w_n9)] [(.int (6 : Int32))])) _
    refine XS.iloadN X14.here hx rfl (hb hby d2_10) rfl ?_
    show Steps p.tables e below (T14.setTop (mkF m 11 #[.val (.int (-108 : Int32)), .val (.ref w_n10), .val (.int (11 : Int32)), .val (.int (6 : Int32)), .val (.ref w_n9)] [(.int (11 : Int32)), (.int (6 : Int32))])) _
    refine XS.icmpNo X14.here hx rfl (hb hby d2_11) rfl (tlt ((by decide) : (6 : Int32) < (11 : Int32))).2.1 ?_
    show Steps p.tables e below (T14.setTop (mkF m 14 #[.val (.int (-108 : Int32)), .val (.ref w_n10), .val (.int (11 : Int32)), .val (.int (6 : Int32)), .val (.ref w_n9)] [])) _
    refine XS.aloadN X14.here hx rfl (hb hby d2_14) rfl rfl ?_
    show Steps p.tables e below (T14.setTop (mkF m 15 #[.val (.int (-108 : Int32)), .val (.ref w_n10), .val (.int (11 : Int32)), .val (.int (6 : Int32)), .val (.ref w_n9)] [(.ref w_n10)])) _
    refine XS.iloadN X14.here hx rfl (hb hby d2_15) rfl ?_
    show Steps p.tables e below (T14.setTop (mkF m 16 #[.val (.int (-108 : Int32)), .val (.ref w_n10), .val (.int (11 : Int32)), .val (.int (6 : Int32)), .val (.ref w_n9)] [(.int (6 : Int32)), (.ref w_n10)])) _
    refine X14.aaload hx (j := (6 : Int32)) (v := (.ref w_n6)) (by rw [e14]; exact Ar15.1) (State.isArrayOf_alike hZ.alike Ar15.2.1) rfl Ar15.2.2 hin15 hat15 (g := (mkF m 16 #[.val (.int (-108 : Int32)), .val (.ref w_n10), .val (.int (11 : Int32)), .val (.int (6 : Int32)), .val (.ref w_n9)] [(.int (6 : Int32)), (.ref w_n10)])) rfl rfl (hb hby d2_16) _ ?_
    show Steps p.tables e below (T14.setTop (mkF m 17 #[.val (.int (-108 : Int32)), .val (.ref w_n10), .val (.int (11 : Int32)), .val (.int (6 : Int32)), .val (.ref w_n9)] [(.ref w_n6)])) _
    refine XS.astore X14.here hx rfl (hb hby d2_17) rfl rfl (l' := #[.val (.int (-108 : Int32)), .val (.ref w_n10), .val (.int (11 : Int32)), .val (.int (6 : Int32)), .val (.ref w_n6)]) rfl ?_
    show Steps p.tables e below (T14.setTop (mkF m 19 #[.val (.int (-108 : Int32)), .val (.ref w_n10), .val (.int (11 : Int32)), .val (.int (6 : Int32)), .val (.ref w_n6)] [])) _
    refine XS.aload X14.here hx rfl (hb hby d2_19) rfl rfl ?_
    show Steps p.tables e below (T14.setTop (mkF m 21 #[.val (.int (-108 : Int32)), .val (.ref w_n10), .val (.int (11 : Int32)), .val (.int (6 : Int32)), .val (.ref w_n6)] [(.ref w_n6)])) _
    refine st16 _ ?_
    show Steps p.tables e below (T16.setTop (mkF m 24 #[.val (.int (-108 : Int32)), .val (.ref w_n10), .val (.int (11 : Int32)), .val (.int (6 : Int32)), .val (.ref w_n6)] [(.int (-103 : Int32))])) _
    refine XS.iloadN X16.here hx rfl (hb hby d2_24) rfl ?_
    show Steps p.tables e below (T16.setTop (mkF m 25 #[.val (.int (-108 : Int32)), .val (.ref w_n10), .val (.int (11 : Int32)), .val (.int (6 : Int32)), .val (.ref w_n6)] [(.int (-108 : Int32)), (.int (-103 : Int32))])) _
    refine XS.icmpYes X16.here hx rfl (pc0 := 25) (pc' := 34) rfl (hb hby d2_25) rfl (feq ((by decide) : ¬ ((-103 : Int32) = (-108 : Int32)))).2 (by decide) (by decide) ?_
    show Steps p.tables e below (T16.setTop (mkF m 34 #[.val (.int (-108 : Int32)), .val (.ref w_n10), .val (.int (11 : Int32)), .val (.int (6 : Int32)), .val (.ref w_n6)] [])) _
    refine XS.iinc X16.here hx rfl (hb hby d2_34) rfl (l' := #[.val (.int (-108 : Int32)), .val (.ref w_n10), .val (.int (11 : Int32)), .val (.int ((6 : Int32) + (1 : Int32))), .val (.ref w_n6)]) rfl ?_
    show Steps p.tables e below (T16.setTop (mkF m 37 #[.val (.int (-108 : Int32)), .val (.ref w_n10), .val (.int (11 : Int32)), .val (.int ((6 : Int32) + (1 : Int32))), .val (.ref w_n6)] [])) _
    rw [show ((6 : Int32) + (1 : Int32)) = (7 : Int32) from by decide]
    show Steps p.tables e below (T16.setTop (mkF m 37 #[.val (.int (-108 : Int32)), .val (.ref w_n10), .val (.int (11 : Int32)), .val (.int (7 : Int32)), .val (.ref w_n6)] [])) _
    refine XS.goto X16.here hx rfl (pc0 := 37) (pc' := 9) rfl (hb hby d2_37) (by decide) (by decide) ?_
    show Steps p.tables e below (T16.setTop (mkF m 9 #[.val (.int (-108 : Int32)), .val (.ref w_n10), .val (.int (11 : Int32)), .val (.int (7 : Int32)), .val (.ref w_n6)] [])) _
    refine XS.iloadN X16.here hx rfl (hb hby d2_9) rfl ?_
    show Steps p.tables e below (T16.setTop (mkF m 10 #[.val (.int (-108 : Int32)), .val (.ref w_n10), .val (.int (11 : Int32)), .val (.int (7 : Int32)), .val (.ref w_n6)] [(.int (7 : Int32))])) _
    refine XS.iloadN X16.here hx rfl (hb hby d2_10) rfl ?_
    show Steps p.tables e below (T16.setTop (mkF m 11 #[.val (.int (-108 : Int32)), .val (.ref w_n10), .val (.int (11 : Int32)), .val (.int (7 : Int32)), .val (.ref w_n6)] [(.int (11 : Int32)), (.int (7 : Int32))])) _
    refine XS.icmpNo X16.here hx rfl (hb hby d2_11) rfl (tlt ((by decide) : (7 : Int32) < (11 : Int32))).2.1 ?_
    show Steps p.tables e below (T16.setTop (mkF m 14 #[.val (.int (-108 : Int32)), .val (.ref w_n10), .val (.int (11 : Int32)), .val (.int (7 : Int32)), .val (.ref w_n6)] [])) _
    refine XS.aloadN X16.here hx rfl (hb hby d2_14) rfl rfl ?_
    show Steps p.tables e below (T16.setTop (mkF m 15 #[.val (.int (-108 : Int32)), .val (.ref w_n10), .val (.int (11 : Int32)), .val (.int (7 : Int32)), .val (.ref w_n6)] [(.ref w_n10)])) _
    refine XS.iloadN X16.here hx rfl (hb hby d2_15) rfl ?_
    show Steps p.tables e below (T16.setTop (mkF m 16 #[.val (.int (-108 : Int32)), .val (.ref w_n10), .val (.int (11 : Int32)), .val (.int (7 : Int32)), .val (.ref w_n6)] [(.int (7 : Int32)), (.ref w_n10)])) _
    refine X16.aaload hx (j := (7 : Int32)) (v := (.ref w_n0)) (by rw [e16]; exact Ar17.1) (State.isArrayOf_alike hZ.alike Ar17.2.1) rfl Ar17.2.2 hin17 hat17 (g := (mkF m 16 #[.val (.int (-108 : Int32)), .val (.ref w_n10), .val (.int (11 : Int32)), .val (.int (7 : Int32)), .val (.ref w_n6)] [(.int (7 : Int32)), (.ref w_n10)])) rfl rfl (hb hby d2_16) _ ?_
    show Steps p.tables e below (T16.setTop (mkF m 17 #[.val (.int (-108 : Int32)), .val (.ref w_n10), .val (.int (11 : Int32)), .val (.int (7 : Int32)), .val (.ref w_n6)] [(.ref w_n0)])) _
    refine XS.astore X16.here hx rfl (hb hby d2_17) rfl rfl (l' := #[.val (.int (-108 : Int32)), .val (.ref w_n10), .val (.int (11 : Int32)), .val (.int (7 : Int32)), .val (.ref w_n0)]) rfl ?_
    show Steps p.tables e below (T16.setTop (mkF m 19 #[.val (.int (-108 : Int32)), .val (.ref w_n10), .val (.int (11 : Int32)), .val (.int (7 : Int32)), .val (.ref w_n0)] [])) _
    refine XS.aload X16.here hx rfl (hb hby d2_19) rfl rfl ?_
    show Steps p.tables e below (T16.setTop (mkF m 21 #[.val (.int (-108 : Int32)), .val (.ref w_n10), .val (.int (11 : Int32)), .val (.int (7 : Int32)), .val (.ref w_n0)] [(.ref w_n0)])) _
    refine st18 _ ?_
    show Steps p.tables e below (T18.setTop (mkF m 24 #[.val (.int (-108 : Int32)), .val (.ref w_n10), .val (.int (11 : Int32)), .val (.int (7 : Int32)), .val (.ref w_n0)] [(.int (-108 : Int32))])) _
    refine XS.iloadN X18.here hx rfl (hb hby d2_24) rfl ?_
    show Steps p.tables e below (T18.setTop (mkF m 25 #[.val (.int (-108 : Int32)), .val (.ref w_n10), .val (.int (11 : Int32)), .val (.int (7 : Int32)), .val (.ref w_n0)] [(.int (-108 : Int32)), (.int (-108 : Int32))])) _
    refine XS.icmpNo X18.here hx rfl (hb hby d2_25) rfl (teq ((by decide) : (-108 : Int32) = (-108 : Int32))).2 ?_
    show Steps p.tables e below (T18.setTop (mkF m 28 #[.val (.int (-108 : Int32)), .val (.ref w_n10), .val (.int (11 : Int32)), .val (.int (7 : Int32)), .val (.ref w_n0)] [])) _
    refine XS.aload X18.here hx rfl (hb hby d2_28) rfl rfl ?_
    show Steps p.tables e below (T18.setTop (mkF m 30 #[.val (.int (-108 : Int32)), .val (.ref w_n10), .val (.int (11 : Int32)), .val (.int (7 : Int32)), .val (.ref w_n0)] [(.ref w_n0)])) _
    refine st19 _ ?_
    show Steps p.tables e below (T19.setTop (mkF m 33 #[.val (.int (-108 : Int32)), .val (.ref w_n10), .val (.int (11 : Int32)), .val (.int (7 : Int32)), .val (.ref w_n0)] [(.ref b19_b1)])) _
    jvm_step X19.here [X19.here.top, hx, (hb hby d2_33), X19.method', Bd.returns, Value.isRef, FieldType.isReference]
    first | (intro acts; rw [hr _ acts rfl rfl rfl]) | rw [hr _ _ rfl rfl rfl]
    exact Steps.refl _
  · show QW (fun v h => ∃ b19_b1 : Addr, v = some (.ref b19_b1) ∧ Keep h0 h [] ∧ n0 ≤ b19_b1 ∧ h0.size ≤ b19_b1 ∧ Exa Z h b19_b1 "java/util/Optional" ∧ Fld Z h b19_b1 "java/util/Optional" "value" "Ljava/lang/Object;" (.ref w_n0)) n0 _ T19.heap _
    exact ⟨N19, ⟨b19_b1, rfl, K19, g_b19_b1, sz_b19_b1, fp19_0, fp19_1⟩⟩
theorem d8_68 : decode method_2_code 68 = .ok (.iload_n 0, 1) := by decide +kernel
theorem d8_69 : decode method_2_code 69 = .ok (.bipush (-108), 2) := by decide +kernel
theorem d8_71 : decode method_2_code 71 = .ok (.if_icmp .ne 7, 3) := by decide +kernel
theorem d8_74 : decode method_2_code 74 = .ok (.getstatic 31, 3) := by decide +kernel
theorem d8_77 : decode method_2_code 77 = .ok (.areturn, 1) := by decide +kernel
set_option maxRecDepth 65536 in
set_option maxHeartbeats 40000000 in
theorem rm_ex7 (l : Launch) (Z : State) (a0 : Array Value) (hw : ∀ d ∈ tables_1, d.before a0 Z = true) (ws : List Jvm.Cond) {w_n5 : Addr} {w_n10 : Addr} {w_OK : Addr} {w_n1 : Addr} {w_n2 : Addr} {w_n4 : Addr} {w_n9 : Addr} {w_n6 : Addr} {w_n0 : Addr} {w_n7 : Addr} {w_n8 : Addr} {w_n3 : Addr} {w_n11 : Addr} {k_n10 : ClassId} (W : Wd Z w_n5 w_n10 w_OK w_n1 w_n2 w_n4 w_n9 w_n6 w_n0 w_n7 w_n8 w_n3 w_n11 k_n10) (h0 : Heap) (n0 : Nat) (O0 : Old Z n0 h0) :
    MetFree l (⟨"com/example/usher/usher/wire/ErrorCodeForCodePinLaw", "expected", "(I)Lcom/example/usher/usher/wire/ErrorCode;"⟩ : MethodName) (head1 (Jvm.Cond.code (⟨"com/example/usher/usher/wire/ErrorCodeForCodePinLaw", "expected", "(I)Lcom/example/usher/usher/wire/ErrorCode;"⟩ : MethodName) method_2_code 1 (some (.object "com/example/usher/usher/wire/ErrorCode")) :: ws) ({ frames := 0, cells := 0, slots := 0, locals := 0 } : Room)) (fun a U => a = #[(.int (-108 : Int32))] ∧ Z.Warmed39 U.vm ∧ U.heap = h0) (fun _ _ _ _ _ => True) (fun _ U o U' => ∃ v L, o = .returned v ∧ QP (some (.ref w_n0)) h0 n0 v U'.heap L ∧ FrameEnd U o U' L ({ frames := 0, cells := 0, slots := 0, locals := 0 } : Room).cells ({ frames := 0, cells := 0, slots := 0, locals := 0 } : Room).slots) := by
  have W' := W; obtain ⟨S_n5, E_n5, S_n10, S_OK, E_OK, S_n1, E_n1, S_n2, E_n2, S_n4, E_n4, S_n9, E_n9, S_n6, E_n6, S_n0, E_n0, S_n7, E_n7, S_n8, E_n8, S_n3, E_n3, S_n11, E_n11, F_OK_code, F_n5_code, F_n1_code, F_n2_code, F_n4_code, F_n9_code, F_n6_code, F_n0_code, F_n7_code, F_n8_code, F_n3_code, F_n11_value, V_n10⟩ := W'
  refine MetFree.of_bodySF (plainFor_of_name pn_8) hisR ?_
  intro p e s m args below meth c s₁ Bd hml0 hP hK
  obtain ⟨rfl, hZ, hh⟩ := hP
  have hx := Bd.exec
  have hby := Bd.bytes
  have hml : c.maxLocals = 1 := hml0
  have hown : s.vm.findClass "com/example/usher/usher/wire/ErrorCodeForCodePinLaw" = some m.cls := findClass_of_methodNamed Bd.named
  have hnm := (name_of_methodNamed Bd.named Bd.method).1
  have X0 : Stand p l e ({ frames := 0, cells := 0, slots := 0, locals := 0 } : Room) s m #[(.int (-108 : Int32))] below meth c s₁ [] 0 0 := Stand.of_body Bd
  have e0 : s₁.heap = h0 := by rw [← hh, Bd.state]; rfl
  have N0 := Fr.nil n0
  have pre0 : ∀ t, Steps p.tables e below (s₁.setTop (mkF m 0 #[.val (.int (-108 : Int32))] [])) t → Steps p.tables e below (s₁.setTop (entryFrame m #[(.int (-108 : Int32))] 1)) t := fun t k => castTop (ef_8_5 m (-108 : Int32)) k
  obtain ⟨T1, X1, e1, st1⟩ := getS2 X0 hx hZ hown (host := "") (Or.inl (hw _ (List.mem_of_getElem? (i := 72) rfl))) Via.refl e0 (S_n0.ext O0.2) (g := (mkF m 74 #[.val (.int (-108 : Int32))] [])) rfl (hb hby d8_74)
  obtain ⟨fs, hr, hrun, hended, hW, hsame⟩ := X1.leave (v := some (.ref w_n0)) (fun h => by rw [Bd.returns] at h; cases h)
  refine ⟨_, _, pre0 _ ?_, hrun, hended, _, _, rfl, ?_, ⟨_, rfl⟩, hW, hsame.mono (by decide) (by decide)⟩
  · show Steps p.tables e below (s₁.setTop (mkF m 0 #[.val (.int (-108 : Int32))] [])) _
    refine XS.iloadN X0.here hx rfl (hb hby d8_0) rfl ?_
    show Steps p.tables e below (s₁.setTop (mkF m 1 #[.val (.int (-108 : Int32))] [(.int (-108 : Int32))])) _
    refine XS.ifYes X0.here hx rfl (pc0 := 1) (pc' := 8) rfl (hb hby d8_1) rfl ((if0 _ _).trans (feq ((by decide) : ¬ ((-108 : Int32) = (0 : Int32)))).2) (by decide) (by decide) ?_
    show Steps p.tables e below (s₁.setTop (mkF m 8 #[.val (.int (-108 : Int32))] [])) _
    refine XS.iloadN X0.here hx rfl (hb hby d8_8) rfl ?_
    show Steps p.tables e below (s₁.setTop (mkF m 9 #[.val (.int (-108 : Int32))] [(.int (-108 : Int32))])) _
    refine XS.bipush X0.here hx rfl (hb hby d8_9) ?_
    show Steps p.tables e below (s₁.setTop (mkF m 11 #[.val (.int (-108 : Int32))] [(.int (-2 : Int32)), (.int (-108 : Int32))])) _
    refine XS.icmpYes X0.here hx rfl (pc0 := 11) (pc' := 18) rfl (hb hby d8_11) rfl (feq ((by decide) : ¬ ((-108 : Int32) = (-2 : Int32)))).2 (by decide) (by decide) ?_
    show Steps p.tables e below (s₁.setTop (mkF m 18 #[.val (.int (-108 : Int32))] [])) _
    refine XS.iloadN X0.here hx rfl (hb hby d8_18) rfl ?_
    show Steps p.tables e below (s₁.setTop (mkF m 19 #[.val (.int (-108 : Int32))] [(.int (-108 : Int32))])) _
    refine XS.bipush X0.here hx rfl (hb hby d8_19) ?_
    show Steps p.tables e below (s₁.setTop (mkF m 21 #[.val (.int (-108 : Int32))] [(.int (-5 : Int32)), (.int (-108 : Int32))])) _
    refine XS.icmpYes X0.here hx rfl (pc0 := 21) (pc' := 28) rfl (hb hby d8_21) rfl (feq ((by decide) : ¬ ((-108 : Int32) = (-5 : Int32)))).2 (by decide) (by decide) ?_
    show Steps p.tables e below (s₁.setTop (mkF m 28 #[.val (.int (-108 : Int32))] [])) _
    refine XS.iloadN X0.here hx rfl (hb hby d8_28) rfl ?_
    show Steps p.tables e below (s₁.setTop (mkF m 29 #[.val (.int (-108 : Int32))] [(.int (-108 : Int32))])) _
    refine XS.bipush X0.here hx rfl (hb hby d8_29) ?_
    show Steps p.tables e below (s₁.setTop (mkF m 31 #[.val (.int (-108 : Int32))] [(.int (-6 : Int32)), (.int (-108 : Int32))])) _
    refine XS.icmpYes X0.here hx rfl (pc0 := 31) (pc' := 38) rfl (hb hby d8_31) rfl (feq ((by decide) : ¬ ((-108 : Int32) = (-6 : Int32)))).2 (by decide) (by decide) ?_
    show Steps p.tables e below (s₁.setTop (mkF m 38 #[.val (.int (-108 : Int32))] [])) _
    refine XS.iloadN X0.here hx rfl (hb hby d8_38) rfl ?_
    show Steps p.tables e below (s₁.setTop (mkF m 39 #[.val (.int (-108 : Int32))] [(.int (-108 : Int32))])) _
    refine XS.bipush X0.here hx rfl (hb hby d8_39) ?_
    show Steps p.tables e below (s₁.setTop (mkF m 41 #[.val (.int (-108 : Int32))] [(.int (-8 : Int32)), (.int (-108 : Int32))])) _
    refine XS.icmpYes X0.here hx rfl (pc0 := 41) (pc' := 48) rfl (hb hby d8_41) rfl (feq ((by decide) : ¬ ((-108 : Int32) = (-8 : Int32)))).2 (by decide) (by decide) ?_
    show Steps p.tables e below (s₁.setTop (mkF m 48 #[.val (.int (-108 : Int32))] [])) _
    refine XS.iloadN X0.here hx rfl (hb hby d8_48) rfl ?_
    show Steps p.tables e below (s₁.setTop (mkF m 49 #[.val (.int (-108 : Int32))] [(.int (-108 : Int32))])) _
    refine XS.bipush X0.here hx rfl (hb hby d8_49) ?_
    show Steps p.tables e below (s₁.setTop (mkF m 51 #[.val (.int (-108 : Int32))] [(.int (-101 : Int32)), (.int (-108 : Int32))])) _
    refine XS.icmpYes X0.here hx rfl (pc0 := 51) (pc' := 58) rfl (hb hby d8_51) rfl (feq ((by decide) : ¬ ((-108 : Int32) = (-101 : Int32)))).2 (by decide) (by decide) ?_
    show Steps p.tables e below (s₁.setTop (mkF m 58 #[.val (.int (-108 : Int32))] [])) _
    refine XS.iloadN X0.here hx rfl (hb hby d8_58) rfl ?_
    show Steps p.tables e below (s₁.setTop (mkF m 59 #[.val (.int (-108 : Int32))] [(.int (-108 : Int32))])) _
    refine XS.bipush X0.here hx rfl (hb hby d8_59) ?_
    show Steps p.tables e below (s₁.setTop (mkF m 61 #[.val (.int (-108 : Int32))] [(.int (-103 : Int32)), (.int (-108 : Int32))])) _
    refine XS.icmpYes X0.here hx rfl (pc0 := 61) (pc' := 68) rfl (hb hby d8_61) rfl (feq ((by decide) : ¬ ((-108 : Int32) = (-103 : Int32)))).2 (by decide) (by decide) ?_
    show Steps p.tables e below (s₁.setTop (mkF m 68 #[.val (.int (-108 : Int32))] [])) _
    refine XS.iloadN X0.here hx rfl (hb hby d8_68) rfl ?_
    show Steps p.tables e below (s₁.setTop (mkF m 69 #[.val (.int (-108 : Int32))] [(.int (-108 : Int32))])) _
    refine XS.bipush X0.here hx rfl (hb hby d8_69) ?_
    show Steps p.tables e below (s₁.setTop (mkF m 71 #[.val (.int (-108 : Int32))] [(.int (-108 : Int32)), (.int (-108 : Int32))])) _
    refine XS.icmpNo X0.here hx rfl (hb hby d8_71) rfl (teq ((by decide) : (-108 : Int32) = (-108 : Int32))).2 ?_
    show Steps p.tables e below (s₁.setTop (mkF m 74 #[.val (.int (-108 : Int32))] [])) _
    refine st1 _ ?_
    show Steps p.tables e below (T1.setTop (mkF m 77 #[.val (.int (-108 : Int32))] [(.ref w_n0)])) _
    jvm_step X1.here [X1.here.top, hx, (hb hby d8_77), X1.method', Bd.returns, Value.isRef, FieldType.isReference]
    first | (intro acts; rw [hr _ acts rfl rfl rfl]) | rw [hr _ _ rfl rfl rfl]
    exact Steps.refl _
  · show QP (some (.ref w_n0)) h0 n0 _ T1.heap _
    rw [e1]
    exact ⟨rfl, N0, rfl⟩
theorem d1_63 : decode method_3_code 63 = .ok (.iload_n 0, 1) := by decide +kernel
theorem d1_64 : decode method_3_code 64 = .ok (.bipush 7, 2) := by decide +kernel
theorem d1_66 : decode method_3_code 66 = .ok (.if_icmp .ne 7, 3) := by decide +kernel
theorem d1_69 : decode method_3_code 69 = .ok (.getstatic 31, 3) := by decide +kernel
theorem d1_72 : decode method_3_code 72 = .ok (.areturn, 1) := by decide +kernel
set_option maxRecDepth 65536 in
set_option maxHeartbeats 40000000 in
theorem rm_pk7 (l : Launch) (Z : State) (a0 : Array Value) (hw : ∀ d ∈ tables_1, d.before a0 Z = true) (ws : List Jvm.Cond) {w_n5 : Addr} {w_n10 : Addr} {w_OK : Addr} {w_n1 : Addr} {w_n2 : Addr} {w_n4 : Addr} {w_n9 : Addr} {w_n6 : Addr} {w_n0 : Addr} {w_n7 : Addr} {w_n8 : Addr} {w_n3 : Addr} {w_n11 : Addr} {k_n10 : ClassId} (W : Wd Z w_n5 w_n10 w_OK w_n1 w_n2 w_n4 w_n9 w_n6 w_n0 w_n7 w_n8 w_n3 w_n11 k_n10) (h0 : Heap) (n0 : Nat) (O0 : Old Z n0 h0) :
    MetFree l (⟨"com/example/usher/usher/wire/ErrorCodeForCodePinLaw", "pick", "(I)Lcom/example/usher/usher/wire/ErrorCode;"⟩ : MethodName) (head1 (Jvm.Cond.code (⟨"com/example/usher/usher/wire/ErrorCodeForCodePinLaw", "pick", "(I)Lcom/example/usher/usher/wire/ErrorCode;"⟩ : MethodName) method_3_code 1 (some (.object "com/example/usher/usher/wire/ErrorCode")) :: ws) ({ frames := 0, cells := 0, slots := 0, locals := 0 } : Room)) (fun a U => a = #[(.int (7 : Int32))] ∧ Z.Warmed39 U.vm ∧ U.heap = h0) (fun _ _ _ _ _ => True) (fun _ U o U' => ∃ v L, o = .returned v ∧ QP (some (.ref w_n0)) h0 n0 v U'.heap L ∧ FrameEnd U o U' L ({ frames := 0, cells := 0, slots := 0, locals := 0 } : Room).cells ({ frames := 0, cells := 0, slots := 0, locals := 0 } : Room).slots) := by
  have W' := W; obtain ⟨S_n5, E_n5, S_n10, S_OK, E_OK, S_n1, E_n1, S_n2, E_n2, S_n4, E_n4, S_n9, E_n9, S_n6, E_n6, S_n0, E_n0, S_n7, E_n7, S_n8, E_n8, S_n3, E_n3, S_n11, E_n11, F_OK_code, F_n5_code, F_n1_code, F_n2_code, F_n4_code, F_n9_code, F_n6_code, F_n0_code, F_n7_code, F_n8_code, F_n3_code, F_n11_value, V_n10⟩ := W'
  refine MetFree.of_bodySF (plainFor_of_name pn_1) hisR ?_
  intro p e s m args below meth c s₁ Bd hml0 hP hK
  obtain ⟨rfl, hZ, hh⟩ := hP
  have hx := Bd.exec
  have hby := Bd.bytes
  have hml : c.maxLocals = 1 := hml0
  have hown : s.vm.findClass "com/example/usher/usher/wire/ErrorCodeForCodePinLaw" = some m.cls := findClass_of_methodNamed Bd.named
  have hnm := (name_of_methodNamed Bd.named Bd.method).1
  have X0 : Stand p l e ({ frames := 0, cells := 0, slots := 0, locals := 0 } : Room) s m #[(.int (7 : Int32))] below meth c s₁ [] 0 0 := Stand.of_body Bd
  have e0 : s₁.heap = h0 := by rw [← hh, Bd.state]; rfl
  have N0 := Fr.nil n0
  have pre0 : ∀ t, Steps p.tables e below (s₁.setTop (mkF m 0 #[.val (.int (7 : Int32))] [])) t → Steps p.tables e below (s₁.setTop (entryFrame m #[(.int (7 : Int32))] 1)) t := fun t k => castTop (ef_1_6 m (7 : Int32)) k
  obtain ⟨T1, X1, e1, st1⟩ := getS2 X0 hx hZ hown (host := "") (Or.inl (hw _ (List.mem_of_getElem? (i := 72) rfl))) Via.refl e0 (S_n0.ext O0.2) (g := (mkF m 69 #[.val (.int (7 : Int32))] [])) rfl (hb hby d1_69)
  obtain ⟨fs, hr, hrun, hended, hW, hsame⟩ := X1.leave (v := some (.ref w_n0)) (fun h => by rw [Bd.returns] at h; cases h)
  refine ⟨_, _, pre0 _ ?_, hrun, hended, _, _, rfl, ?_, ⟨_, rfl⟩, hW, hsame.mono (by decide) (by decide)⟩
  · show Steps p.tables e below (s₁.setTop (mkF m 0 #[.val (.int (7 : Int32))] [])) _
    refine XS.iloadN X0.here hx rfl (hb hby d1_0) rfl ?_
    show Steps p.tables e below (s₁.setTop (mkF m 1 #[.val (.int (7 : Int32))] [(.int (7 : Int32))])) _
    refine XS.ifYes X0.here hx rfl (pc0 := 1) (pc' := 8) rfl (hb hby d1_1) rfl ((if0 _ _).trans (feq ((by decide) : ¬ ((7 : Int32) = (0 : Int32)))).2) (by decide) (by decide) ?_
    show Steps p.tables e below (s₁.setTop (mkF m 8 #[.val (.int (7 : Int32))] [])) _
    refine XS.iloadN X0.here hx rfl (hb hby d1_8) rfl ?_
    show Steps p.tables e below (s₁.setTop (mkF m 9 #[.val (.int (7 : Int32))] [(.int (7 : Int32))])) _
    refine XS.iconst X0.here hx rfl (hb hby d1_9) ?_
    show Steps p.tables e below (s₁.setTop (mkF m 10 #[.val (.int (7 : Int32))] [(.int (1 : Int32)), (.int (7 : Int32))])) _
    refine XS.icmpYes X0.here hx rfl (pc0 := 10) (pc' := 17) rfl (hb hby d1_10) rfl (feq ((by decide) : ¬ ((7 : Int32) = (1 : Int32)))).2 (by decide) (by decide) ?_
    show Steps p.tables e below (s₁.setTop (mkF m 17 #[.val (.int (7 : Int32))] [])) _
    refine XS.iloadN X0.here hx rfl (hb hby d1_17) rfl ?_
    show Steps p.tables e below (s₁.setTop (mkF m 18 #[.val (.int (7 : Int32))] [(.int (7 : Int32))])) _
    refine XS.iconst X0.here hx rfl (hb hby d1_18) ?_
    show Steps p.tables e below (s₁.setTop (mkF m 19 #[.val (.int (7 : Int32))] [(.int (2 : Int32)), (.int (7 : Int32))])) _
    refine XS.icmpYes X0.here hx rfl (pc0 := 19) (pc' := 26) rfl (hb hby d1_19) rfl (feq ((by decide) : ¬ ((7 : Int32) = (2 : Int32)))).2 (by decide) (by decide) ?_
    show Steps p.tables e below (s₁.setTop (mkF m 26 #[.val (.int (7 : Int32))] [])) _
    refine XS.iloadN X0.here hx rfl (hb hby d1_26) rfl ?_
    show Steps p.tables e below (s₁.setTop (mkF m 27 #[.val (.int (7 : Int32))] [(.int (7 : Int32))])) _
    refine XS.iconst X0.here hx rfl (hb hby d1_27) ?_
    show Steps p.tables e below (s₁.setTop (mkF m 28 #[.val (.int (7 : Int32))] [(.int (3 : Int32)), (.int (7 : Int32))])) _
    refine XS.icmpYes X0.here hx rfl (pc0 := 28) (pc' := 35) rfl (hb hby d1_28) rfl (feq ((by decide) : ¬ ((7 : Int32) = (3 : Int32)))).2 (by decide) (by decide) ?_
    show Steps p.tables e below (s₁.setTop (mkF m 35 #[.val (.int (7 : Int32))] [])) _
    refine XS.iloadN X0.here hx rfl (hb hby d1_35) rfl ?_
    show Steps p.tables e below (s₁.setTop (mkF m 36 #[.val (.int (7 : Int32))] [(.int (7 : Int32))])) _
    refine XS.iconst X0.here hx rfl (hb hby d1_36) ?_
    show Steps p.tables e below (s₁.setTop (mkF m 37 #[.val (.int (7 : Int32))] [(.int (4 : Int32)), (.int (7 : Int32))])) _
    refine XS.icmpYes X0.here hx rfl (pc0 := 37) (pc' := 44) rfl (hb hby d1_37) rfl (feq ((by decide) : ¬ ((7 : Int32) = (4 : Int32)))).2 (by decide) (by decide) ?_
    show Steps p.tables e below (s₁.setTop (mkF m 44 #[.val (.int (7 : Int32))] [])) _
    refine XS.iloadN X0.here hx rfl (hb hby d1_44) rfl ?_
    show Steps p.tables e below (s₁.setTop (mkF m 45 #[.val (.int (7 : Int32))] [(.int (7 : Int32))])) _
    refine XS.iconst X0.here hx rfl (hb hby d1_45) ?_
    show Steps p.tables e below (s₁.setTop (mkF m 46 #[.val (.int (7 : Int32))] [(.int (5 : Int32)), (.int (7 : Int32))])) _
    refine XS.icmpYes X0.here hx rfl (pc0 := 46) (pc' := 53) rfl (hb hby d1_46) rfl (feq ((by decide) : ¬ ((7 : Int32) = (5 : Int32)))).2 (by decide) (by decide) ?_
    show Steps p.tables e below (s₁.setTop (mkF m 53 #[.val (.int (7 : Int32))] [])) _
    refine XS.iloadN X0.here hx rfl (hb hby d1_53) rfl ?_
    show Steps p.tables e below (s₁.setTop (mkF m 54 #[.val (.int (7 : Int32))] [(.int (7 : Int32))])) _
    refine XS.bipush X0.here hx rfl (hb hby d1_54) ?_
    show Steps p.tables e below (s₁.setTop (mkF m 56 #[.val (.int (7 : Int32))] [(.int (6 : Int32)), (.int (7 : Int32))])) _
    refine XS.icmpYes X0.here hx rfl (pc0 := 56) (pc' := 63) rfl (hb hby d1_56) rfl (feq ((by decide) : ¬ ((7 : Int32) = (6 : Int32)))).2 (by decide) (by decide) ?_
    show Steps p.tables e below (s₁.setTop (mkF m 63 #[.val (.int (7 : Int32))] [])) _
    refine XS.iloadN X0.here hx rfl (hb hby d1_63) rfl ?_
    show Steps p.tables e below (s₁.setTop (mkF m 64 #[.val (.int (7 : Int32))] [(.int (7 : Int32))])) _
    refine XS.bipush X0.here hx rfl (hb hby d1_64) ?_
    show Steps p.tables e below (s₁.setTop (mkF m 66 #[.val (.int (7 : Int32))] [(.int (7 : Int32)), (.int (7 : Int32))])) _
    refine XS.icmpNo X0.here hx rfl (hb hby d1_66) rfl (teq ((by decide) : (7 : Int32) = (7 : Int32))).2 ?_
    show Steps p.tables e below (s₁.setTop (mkF m 69 #[.val (.int (7 : Int32))] [])) _
    refine st1 _ ?_
    show Steps p.tables e below (T1.setTop (mkF m 72 #[.val (.int (7 : Int32))] [(.ref w_n0)])) _
    jvm_step X1.here [X1.here.top, hx, (hb hby d1_72), X1.method', Bd.returns, Value.isRef, FieldType.isReference]
    first | (intro acts; rw [hr _ acts rfl rfl rfl]) | rw [hr _ _ rfl rfl rfl]
    exact Steps.refl _
  · show QP (some (.ref w_n0)) h0 n0 _ T1.heap _
    rw [e1]
    exact ⟨rfl, N0, rfl⟩
set_option maxRecDepth 65536 in
set_option maxHeartbeats 40000000 in
theorem rm_fc8 (l : Launch) (Z : State) (a0 : Array Value) (hw : ∀ d ∈ tables_1, d.before a0 Z = true) (ws : List Jvm.Cond) {w_n5 : Addr} {w_n10 : Addr} {w_OK : Addr} {w_n1 : Addr} {w_n2 : Addr} {w_n4 : Addr} {w_n9 : Addr} {w_n6 : Addr} {w_n0 : Addr} {w_n7 : Addr} {w_n8 : Addr} {w_n3 : Addr} {w_n11 : Addr} {k_n10 : ClassId} (W : Wd Z w_n5 w_n10 w_OK w_n1 w_n2 w_n4 w_n9 w_n6 w_n0 w_n7 w_n8 w_n3 w_n11 k_n10) (h0 : Heap) (n0 : Nat) (O0 : Old Z n0 h0) :
    MetFree l (⟨"com/example/usher/usher/wire/ErrorCode", "forCode", "(I)Ljava/util/Optional;"⟩ : MethodName) (head1 (Jvm.Cond.code (⟨"com/example/usher/usher/wire/ErrorCode", "forCode", "(I)Ljava/util/Optional;"⟩ : MethodName) prog_14_method_5_code 5 (some (.object "java/util/Optional")) :: ws) ({ frames := 3, cells := 1, slots := 1, locals := 38 } : Room)) (fun a U => a = #[(.int (-110 : Int32))] ∧ Z.Warmed39 U.vm ∧ U.heap = h0) (fun _ _ _ _ _ => True) (fun _ U o U' => ∃ v L, o = .returned v ∧ QW (fun v h => ∃ b21_b1 : Addr, v = some (.ref b21_b1) ∧ Keep h0 h [] ∧ n0 ≤ b21_b1 ∧ h0.size ≤ b21_b1 ∧ Exa Z h b21_b1 "java/util/Optional" ∧ Fld Z h b21_b1 "java/util/Optional" "value" "Ljava/lang/Object;" (.ref w_n7)) n0 v U'.heap L ∧ FrameEnd U o U' L ({ frames := 3, cells := 1, slots := 1, locals := 38 } : Room).cells ({ frames := 3, cells := 1, slots := 1, locals := 38 } : Room).slots) := by
  have W' := W; obtain ⟨S_n5, E_n5, S_n10, S_OK, E_OK, S_n1, E_n1, S_n2, E_n2, S_n4, E_n4, S_n9, E_n9, S_n6, E_n6, S_n0, E_n0, S_n7, E_n7, S_n8, E_n8, S_n3, E_n3, S_n11, E_n11, F_OK_code, F_n5_code, F_n1_code, F_n2_code, F_n4_code, F_n9_code, F_n6_code, F_n0_code, F_n7_code, F_n8_code, F_n3_code, F_n11_value, V_n10⟩ := W'
  refine MetFree.of_bodySF (plainFor_of_name pn_2) hisR ?_
  intro p e s m args below meth c s₁ Bd hml0 hP hK
  obtain ⟨rfl, hZ, hh⟩ := hP
  have hx := Bd.exec
  have hby := Bd.bytes
  have hml : c.maxLocals = 5 := hml0
  have hown : s.vm.findClass "com/example/usher/usher/wire/ErrorCode" = some m.cls := findClass_of_methodNamed Bd.named
  have hnm := (name_of_methodNamed Bd.named Bd.method).1
  have X0 : Stand p l e ({ frames := 3, cells := 1, slots := 1, locals := 38 } : Room) s m #[(.int (-110 : Int32))] below meth c s₁ [] 0 0 := Stand.of_body Bd
  have e0 : s₁.heap = h0 := by rw [← hh, Bd.state]; rfl
  have N0 := Fr.nil n0
  have pre0 : ∀ t, Steps p.tables e below (s₁.setTop (mkF m 0 #[.val (.int (-110 : Int32)), .unset, .unset, .unset, .unset] [])) t → Steps p.tables e below (s₁.setTop (entryFrame m #[(.int (-110 : Int32))] 5)) t := fun t k => castTop (ef_2_4 m (-110 : Int32)) k
  obtain ⟨T1, X1, e1, st1⟩ := getS2 X0 hx hZ hown (host := "") (Or.inl (hw _ (List.mem_of_getElem? (i := 11) rfl))) Via.refl e0 (S_n10.ext O0.2) (g := (mkF m 0 #[.val (.int (-110 : Int32)), .unset, .unset, .unset, .unset] [])) rfl (hb hby d2_0)
  obtain ⟨cl2, Ar2, qk2, Sz2, Nz2, Hs2, Gs2⟩ := id (V_n10.ext O0.2)
  obtain ⟨cl3, Ar3, qk3, Sz3, Nz3, Hs3, Gs3⟩ := id (V_n10.ext O0.2)
  have hin3 : ¬ ((0 : Int32) < 0 ∨ cl3.slots.size ≤ ((0 : Int32)).toNatClampNeg) := inb_of Sz3 ⟨by decide, by decide⟩
  have hat3 : cl3.slots[((0 : Int32)).toNatClampNeg]? = some (.ref w_OK) := Has.at Hs3 hin3 rfl
  obtain ⟨T4, X4, e4, st4⟩ := getF X1 hx hZ hown (host := "") (Or.inl (hw _ (List.mem_of_getElem? (i := 14) rfl))) Via.refl e1 (F_OK_code.ext O0.2) (g := (mkF m 21 #[.val (.int (-110 : Int32)), .val (.ref w_n10), .val (.int (11 : Int32)), .val (.int (0 : Int32)), .val (.ref w_OK)] [(.ref w_OK)])) rfl rfl (hb hby d2_21)
  obtain ⟨cl5, Ar5, qk5, Sz5, Nz5, Hs5, Gs5⟩ := id (V_n10.ext O0.2)
  have hin5 : ¬ ((1 : Int32) < 0 ∨ cl5.slots.size ≤ ((1 : Int32)).toNatClampNeg) := inb_of Sz5 ⟨by decide, by decide⟩
  have hat5 : cl5.slots[((1 : Int32)).toNatClampNeg]? = some (.ref w_n1) := Has.at Hs5 hin5 rfl
  obtain ⟨T6, X6, e6, st6⟩ := getF X4 hx hZ hown (host := "") (Or.inl (hw _ (List.mem_of_getElem? (i := 14) rfl))) Via.refl e4 (F_n1_code.ext O0.2) (g := (mkF m 21 #[.val (.int (-110 : Int32)), .val (.ref w_n10), .val (.int (11 : Int32)), .val (.int (1 : Int32)), .val (.ref w_n1)] [(.ref w_n1)])) rfl rfl (hb hby d2_21)
  obtain ⟨cl7, Ar7, qk7, Sz7, Nz7, Hs7, Gs7⟩ := id (V_n10.ext O0.2)
  have hin7 : ¬ ((2 : Int32) < 0 ∨ cl7.slots.size ≤ ((2 : Int32)).toNatClampNeg) := inb_of Sz7 ⟨by decide, by decide⟩
  have hat7 : cl7.slots[((2 : Int32)).toNatClampNeg]? = some (.ref w_n2) := Has.at Hs7 hin7 rfl
  obtain ⟨T8, X8, e8, st8⟩ := getF X6 hx hZ hown (host := "") (Or.inl (hw _ (List.mem_of_getElem? (i := 14) rfl))) Via.refl e6 (F_n2_code.ext O0.2) (g := (mkF m 21 #[.val (.int (-110 : Int32)), .val (.ref w_n10), .val (.int (11 : Int32)), .val (.int (2 : Int32)), .val (.ref w_n2)] [(.ref w_n2)])) rfl rfl (hb hby d2_21)
  obtain ⟨cl9, Ar9, qk9, Sz9, Nz9, Hs9, Gs9⟩ := id (V_n10.ext O0.2)
  have hin9 : ¬ ((3 : Int32) < 0 ∨ cl9.slots.size ≤ ((3 : Int32)).toNatClampNeg) := inb_of Sz9 ⟨by decide, by decide⟩
  have hat9 : cl9.slots[((3 : Int32)).toNatClampNeg]? = some (.ref w_n5) := Has.at Hs9 hin9 rfl
  obtain ⟨T10, X10, e10, st10⟩ := getF X8 hx hZ hown (host := "") (Or.inl (hw _ (List.mem_of_getElem? (i := 14) rfl))) Via.refl e8 (F_n5_code.ext O0.2) (g := (mkF m 21 #[.val (.int (-110 : Int32)), .val (.ref w_n10), .val (.int (11 : Int32)), .val (.int (3 : Int32)), .val (.ref w_n5)] [(.ref w_n5)])) rfl rfl (hb hby d2_21)
  obtain ⟨cl11, Ar11, qk11, Sz11, Nz11, Hs11, Gs11⟩ := id (V_n10.ext O0.2)
  have hin11 : ¬ ((4 : Int32) < 0 ∨ cl11.slots.size ≤ ((4 : Int32)).toNatClampNeg) := inb_of Sz11 ⟨by decide, by decide⟩
  have hat11 : cl11.slots[((4 : Int32)).toNatClampNeg]? = some (.ref w_n4) := Has.at Hs11 hin11 rfl
  obtain ⟨T12, X12, e12, st12⟩ := getF X10 hx hZ hown (host := "") (Or.inl (hw _ (List.mem_of_getElem? (i := 14) rfl))) Via.refl e10 (F_n4_code.ext O0.2) (g := (mkF m 21 #[.val (.int (-110 : Int32)), .val (.ref w_n10), .val (.int (11 : Int32)), .val (.int (4 : Int32)), .val (.ref w_n4)] [(.ref w_n4)])) rfl rfl (hb hby d2_21)
  obtain ⟨cl13, Ar13, qk13, Sz13, Nz13, Hs13, Gs13⟩ := id (V_n10.ext O0.2)
  have hin13 : ¬ ((5 : Int32) < 0 ∨ cl13.slots.size ≤ ((5 : Int32)).toNatClampNeg) := inb_of Sz13 ⟨by decide, by decide⟩
  have hat13 : cl13.slots[((5 : Int32)).toNatClampNeg]? = some (.ref w_n9) := Has.at Hs13 hin13 rfl
  obtain ⟨T14, X14, e14, st14⟩ := getF X12 hx hZ hown (host := "") (Or.inl (hw _ (List.mem_of_getElem? (i := 14) rfl))) Via.refl e12 (F_n9_code.ext O0.2) (g := (mkF m 21 #[.val (.int (-110 : Int32)), .val (.ref w_n10), .val (.int (11 : Int32)), .val (.int (5 : Int32)), .val (.ref w_n9)] [(.ref w_n9)])) rfl rfl (hb hby d2_21)
  obtain ⟨cl15, Ar15, qk15, Sz15, Nz15, Hs15, Gs15⟩ := id (V_n10.ext O0.2)
  have hin15 : ¬ ((6 : Int32) < 0 ∨ cl15.slots.size ≤ ((6 : Int32)).toNatClampNeg) := inb_of Sz15 ⟨by decide, by decide⟩
  have hat15 : cl15.slots[((6 : Int32)).toNatClampNeg]? = some (.ref w_n6) := Has.at Hs15 hin15 rfl
  obtain ⟨T16, X16, e16, st16⟩ := getF X14 hx hZ hown (host := "") (Or.inl (hw _ (List.mem_of_getElem? (i := 14) rfl))) Via.refl e14 (F_n6_code.ext O0.2) (g := (mkF m 21 #[.val (.int (-110 : Int32)), .val (.ref w_n10), .val (.int (11 : Int32)), .val (.int (6 : Int32)), .val (.ref w_n6)] [(.ref w_n6)])) rfl rfl (hb hby d2_21)
  obtain ⟨cl17, Ar17, qk17, Sz17, Nz17, Hs17, Gs17⟩ := id (V_n10.ext O0.2)
  have hin17 : ¬ ((7 : Int32) < 0 ∨ cl17.slots.size ≤ ((7 : Int32)).toNatClampNeg) := inb_of Sz17 ⟨by decide, by decide⟩
  have hat17 : cl17.slots[((7 : Int32)).toNatClampNeg]? = some (.ref w_n0) := Has.at Hs17 hin17 rfl
  obtain ⟨T18, X18, e18, st18⟩ := getF X16 hx hZ hown (host := "") (Or.inl (hw _ (List.mem_of_getElem? (i := 14) rfl))) Via.refl e16 (F_n0_code.ext O0.2) (g := (mkF m 21 #[.val (.int (-110 : Int32)), .val (.ref w_n10), .val (.int (11 : Int32)), .val (.int (7 : Int32)), .val (.ref w_n0)] [(.ref w_n0)])) rfl rfl (hb hby d2_21)
  obtain ⟨cl19, Ar19, qk19, Sz19, Nz19, Hs19, Gs19⟩ := id (V_n10.ext O0.2)
  have hin19 : ¬ ((8 : Int32) < 0 ∨ cl19.slots.size ≤ ((8 : Int32)).toNatClampNeg) := inb_of Sz19 ⟨by decide, by decide⟩
  have hat19 : cl19.slots[((8 : Int32)).toNatClampNeg]? = some (.ref w_n7) := Has.at Hs19 hin19 rfl
  obtain ⟨T20, X20, e20, st20⟩ := getF X18 hx hZ hown (host := "") (Or.inl (hw _ (List.mem_of_getElem? (i := 14) rfl))) Via.refl e18 (F_n7_code.ext O0.2) (g := (mkF m 21 #[.val (.int (-110 : Int32)), .val (.ref w_n10), .val (.int (11 : Int32)), .val (.int (8 : Int32)), .val (.ref w_n7)] [(.ref w_n7)])) rfl rfl (hb hby d2_21)
  obtain ⟨_, _, ⟨T21, L21, k21, n21⟩, -, X21, ⟨Lc21, hQ21, l21, y21, z21⟩, st21⟩ := Jvm.LawKit.callS X20 hx (y := (⟨"java/util/Optional", "of", "(Ljava/lang/Object;)Ljava/util/Optional;"⟩ : MethodName)) hown (mvT hZ (hw _ (List.mem_of_getElem? (i := 16) rfl))) (mvT hZ (hw _ (List.mem_of_getElem? (i := 17) rfl))) (mvT hZ (hw _ (List.mem_of_getElem? (i := 18) rfl))) (mvT hZ (hw _ (List.mem_of_getElem? (i := 19) rfl))) (by decide) (backOf (W := 0) (rm_of l Z a0 hw [] W w_n7 h0 n0 O0 ) hZ (hw _ (List.mem_of_getElem? (i := 19) rfl)) (hw _ (List.mem_of_getElem? (i := 18) rfl)) (by decide) (by decide)) (g := (mkF m 30 #[.val (.int (-110 : Int32)), .val (.ref w_n10), .val (.int (11 : Int32)), .val (.int (8 : Int32)), .val (.ref w_n7)] [(.ref w_n7)])) rfl (by rw [hml]; rfl) (argsL := [(.ref w_n7)]) (rest := []) (lenOf pd_2 rfl) rfl (by show 2 * 0 + _ ≤ _; exact Nat.le_of_eq rfl) (hb hby d2_30) (fun _ _ => ⟨rfl, e20, (by decide : 0 + 1 ≤ _), (by decide : 0 + 1 ≤ _)⟩)
  dsimp only [Pt.U, Pt.locs, Pt.cells, Pt.slots] at X21 l21 y21 z21 st21 hQ21
  subst l21 y21 z21
  obtain ⟨N21q, hP21⟩ := hQ21
  have N21 := Fr.app N0 N21q
  obtain ⟨b21_b1, rfl, Kp21, g_b21_b1, si_b21_b1, fp21_0, fp21_1⟩ := hP21
  have O21 := O0.keep Kp21 all0
  have sz_b21_b1 : h0.size ≤ b21_b1 := Nat.le_trans ((Keep.refl h0 [])).1 si_b21_b1
  have K21 : Keep h0 T21.heap [] := (Keep.refl h0 []).trans Kp21 all0
  obtain ⟨fs, hr, hrun, hended, hW, hsame⟩ := X21.leave (v := some (.ref b21_b1)) (fun h => by rw [Bd.returns] at h; cases h)
  refine ⟨_, _, pre0 _ ?_, hrun, hended, _, _, rfl, ?_, ⟨_, rfl⟩, hW, hsame.mono (by decide) (by decide)⟩
  · show Steps p.tables e below (s₁.setTop (mkF m 0 #[.val (.int (-110 : Int32)), .unset, .unset, .unset, .unset] [])) _
    refine st1 _ ?_
    show Steps p.tables e below (T1.setTop (mkF m 3 #[.val (.int (-110 : Int32)), .unset, .unset, .unset, .unset] [(.ref w_n10)])) _
    refine XS.astoreN X1.here hx rfl (hb hby d2_3) rfl rfl (l' := #[.val (.int (-110 : Int32)), .val (.ref w_n10), .unset, .unset, .unset]) rfl ?_
    show Steps p.tables e below (T1.setTop (mkF m 4 #[.val (.int (-110 : Int32)), .val (.ref w_n10), .unset, .unset, .unset] [])) _
    refine XS.aloadN X1.here hx rfl (hb hby d2_4) rfl rfl ?_
    show Steps p.tables e below (T1.setTop (mkF m 5 #[.val (.int (-110 : Int32)), .val (.ref w_n10), .unset, .unset, .unset] [(.ref w_n10)])) _
    refine X1.arraylength hx (by rw [e1]; exact Ar2.1) (State.isArrayOf_alike hZ.alike Ar2.2.1) (g := (mkF m 5 #[.val (.int (-110 : Int32)), .val (.ref w_n10), .unset, .unset, .unset] [(.ref w_n10)])) rfl rfl (hb hby d2_5) _ ?_
    rw [len_of Sz2 Nz2]
    show Steps p.tables e below (T1.setTop (mkF m 6 #[.val (.int (-110 : Int32)), .val (.ref w_n10), .unset, .unset, .unset] [(.int (11 : Int32))])) _
    refine XS.istoreN X1.here hx rfl (hb hby d2_6) rfl (l' := #[.val (.int (-110 : Int32)), .val (.ref w_n10), .val (.int (11 : Int32)), .unset, .unset]) rfl ?_
    show Steps p.tables e below (T1.setTop (mkF m 7 #[.val (.int (-110 : Int32)), .val (.ref w_n10), .val (.int (11 : Int32)), .unset, .unset] [])) _
    refine XS.iconst X1.here hx rfl (hb hby d2_7) ?_
    show Steps p.tables e below (T1.setTop (mkF m 8 #[.val (.int (-110 : Int32)), .val (.ref w_n10), .val (.int (11 : Int32)), .unset, .unset] [(.int (0 : Int32))])) _
    refine XS.istoreN X1.here hx rfl (hb hby d2_8) rfl (l' := #[.val (.int (-110 : Int32)), .val (.ref w_n10), .val (.int (11 : Int32)), .val (.int (0 : Int32)), .unset]) rfl ?_
    show Steps p.tables e below (T1.setTop (mkF m 9 #[.val (.int (-110 : Int32)), .val (.ref w_n10), .val (.int (11 : Int32)), .val (.int (0 : Int32)), .unset] [])) _
    refine XS.iloadN X1.here hx rfl (hb hby d2_9) rfl ?_
    show Steps p.tables e below (T1.setTop (mkF m 10 #[.val (.int (-110 : Int32)), .val (.ref w_n10), .val (.int (11 : Int32)), .val (.int (0 : Int32)), .unset] [(.int (0 : Int32))])) _
    refine XS.iloadN X1.here hx rfl (hb hby d2_10) rfl ?_
    show Steps p.tables e below (T1.setTop (mkF m 11 #[.val (.int (-110 : Int32)), .val (.ref w_n10), .val (.int (11 : Int32)), .val (.int (0 : Int32)), .unset] [(.int (11 : Int32)), (.int (0 : Int32))])) _
    refine XS.icmpNo X1.here hx rfl (hb hby d2_11) rfl (tlt ((by decide) : (0 : Int32) < (11 : Int32))).2.1 ?_
    show Steps p.tables e below (T1.setTop (mkF m 14 #[.val (.int (-110 : Int32)), .val (.ref w_n10), .val (.int (11 : Int32)), .val (.int (0 : Int32)), .unset] [])) _
    refine XS.aloadN X1.here hx rfl (hb hby d2_14) rfl rfl ?_
    show Steps p.tables e below (T1.setTop (mkF m 15 #[.val (.int (-110 : Int32)), .val (.ref w_n10), .val (.int (11 : Int32)), .val (.int (0 : Int32)), .unset] [(.ref w_n10)])) _
    refine XS.iloadN X1.here hx rfl (hb hby d2_15) rfl ?_
    show Steps p.tables e below (T1.setTop (mkF m 16 #[.val (.int (-110 : Int32)), .val (.ref w_n10), .val (.int (11 : Int32)), .val (.int (0 : Int32)), .unset] [(.int (0 : Int32)), (.ref w_n10)])) _
    refine X1.aaload hx (j := (0 : Int32)) (v := (.ref w_OK)) (by rw [e1]; exact Ar3.1) (State.isArrayOf_alike hZ.alike Ar3.2.1) rfl Ar3.2.2 hin3 hat3 (g := (mkF m 16 #[.val (.int (-110 : Int32)), .val (.ref w_n10), .val (.int (11 : Int32)), .val (.int (0 : Int32)), .unset] [(.int (0 : Int32)), (.ref w_n10)])) rfl rfl (hb hby d2_16) _ ?_
    show Steps p.tables e below (T1.setTop (mkF m 17 #[.val (.int (-110 : Int32)), .val (.ref w_n10), .val (.int (11 : Int32)), .val (.int (0 : Int32)), .unset] [(.ref w_OK)])) _
    refine XS.astore X1.here hx rfl (hb hby d2_17) rfl rfl (l' := #[.val (.int (-110 : Int32)), .val (.ref w_n10), .val (.int (11 : Int32)), .val (.int (0 : Int32)), .val (.ref w_OK)]) rfl ?_
    show Steps p.tables e below (T1.setTop (mkF m 19 #[.val (.int (-110 : Int32)), .val (.ref w_n10), .val (.int (11 : Int32)), .val (.int (0 : Int32)), .val (.ref w_OK)] [])) _
    refine XS.aload X1.here hx rfl (hb hby d2_19) rfl rfl ?_
    show Steps p.tables e below (T1.setTop (mkF m 21 #[.val (.int (-110 : Int32)), .val (.ref w_n10), .val (.int (11 : Int32)), .val (.int (0 : Int32)), .val (.ref w_OK)] [(.ref w_OK)])) _
    refine st4 _ ?_
    show Steps p.tables e below (T4.setTop (mkF m 24 #[.val (.int (-110 : Int32)), .val (.ref w_n10), .val (.int (11 : Int32)), .val (.int (0 : Int32)), .val (.ref w_OK)] [(.int (0 : Int32))])) _
    refine XS.iloadN X4.here hx rfl (hb hby d2_24) rfl ?_
    show Steps p.tables e below (T4.setTop (mkF m 25 #[.val (.int (-110 : Int32)), .val (.ref w_n10), .val (.int (11 : Int32)), .val (.int (0 : Int32)), .val (.ref w_OK)] [(.int (-110 : Int32)), (.int (0 : Int32))])) _
    refine XS.icmpYes X4.here hx rfl (pc0 := 25) (pc' := 34) rfl (hb hby d2_25) rfl (feq ((by decide) : ¬ ((0 : Int32) = (-110 : Int32)))).2 (by decide) (by decide) ?_
    show Steps p.tables e below (T4.setTop (mkF m 34 #[.val (.int (-110 : Int32)), .val (.ref w_n10), .val (.int (11 : Int32)), .val (.int (0 : Int32)), .val (.ref w_OK)] [])) _
    refine XS.iinc X4.here hx rfl (hb hby d2_34) rfl (l' := #[.val (.int (-110 : Int32)), .val (.ref w_n10), .val (.int (11 : Int32)), .val (.int ((0 : Int32) + (1 : Int32))), .val (.ref w_OK)]) rfl ?_
    show Steps p.tables e below (T4.setTop (mkF m 37 #[.val (.int (-110 : Int32)), .val (.ref w_n10), .val (.int (11 : Int32)), .val (.int ((0 : Int32) + (1 : Int32))), .val (.ref w_OK)] [])) _
    rw [show ((0 : Int32) + (1 : Int32)) = (1 : Int32) from by decide]
    show Steps p.tables e below (T4.setTop (mkF m 37 #[.val (.int (-110 : Int32)), .val (.ref w_n10), .val (.int (11 : Int32)), .val (.int (1 : Int32)), .val (.ref w_OK)] [])) _
    refine XS.goto X4.here hx rfl (pc0 := 37) (pc' := 9) rfl (hb hby d2_37) (by decide) (by decide) ?_
    show Steps p.tables e below (T4.setTop (mkF m 9 #[.val (.int (-110 : Int32)), .val (.ref w_n10), .val (.int (11 : Int32)), .val (.int (1 : Int32)), .val (.ref w_OK)] [])) _
    refine XS.iloadN X4.here hx rfl (hb hby d2_9) rfl ?_
    show Steps p.tables e below (T4.setTop (mkF m 10 #[.val (.int (-110 : Int32)), .val (.ref w_n10), .val (.int (11 : Int32)), .val (.int (1 : Int32)), .val (.ref w_OK)] [(.int (1 : Int32))])) _
    refine XS.iloadN X4.here hx rfl (hb hby d2_10) rfl ?_
    show Steps p.tables e below (T4.setTop (mkF m 11 #[.val (.int (-110 : Int32)), .val (.ref w_n10), .val (.int (11 : Int32)), .val (.int (1 : Int32)), .val (.ref w_OK)] [(.int (11 : Int32)), (.int (1 : Int32))])) _
    refine XS.icmpNo X4.here hx rfl (hb hby d2_11) rfl (tlt ((by decide) : (1 : Int32) < (11 : Int32))).2.1 ?_
    show Steps p.tables e below (T4.setTop (mkF m 14 #[.val (.int (-110 : Int32)), .val (.ref w_n10), .val (.int (11 : Int32)), .val (.int (1 : Int32)), .val (.ref w_OK)] [])) _
    refine XS.aloadN X4.here hx rfl (hb hby d2_14) rfl rfl ?_
    show Steps p.tables e below (T4.setTop (mkF m 15 #[.val (.int (-110 : Int32)), .val (.ref w_n10), .val (.int (11 : Int32)), .val (.int (1 : Int32)), .val (.ref w_OK)] [(.ref w_n10)])) _
    refine XS.iloadN X4.here hx rfl (hb hby d2_15) rfl ?_
    show Steps p.tables e below (T4.setTop (mkF m 16 #[.val (.int (-110 : Int32)), .val (.ref w_n10), .val (.int (11 : Int32)), .val (.int (1 : Int32)), .val (.ref w_OK)] [(.int (1 : Int32)), (.ref w_n10)])) _
    refine X4.aaload hx (j := (1 : Int32)) (v := (.ref w_n1)) (by rw [e4]; exact Ar5.1) (State.isArrayOf_alike hZ.alike Ar5.2.1) rfl Ar5.2.2 hin5 hat5 (g := (mkF m 16 #[.val (.int (-110 : Int32)), .val (.ref w_n10), .val (.int (11 : Int32)), .val (.int (1 : Int32)), .val (.ref w_OK)] [(.int (1 : Int32)), (.ref w_n10)])) rfl rfl (hb hby d2_16) _ ?_
    show Steps p.tables e below (T4.setTop (mkF m 17 #[.val (.int (-110 : Int32)), .val (.ref w_n10), .val (.int (11 : Int32)), .val (.int (1 : Int32)), .val (.ref w_OK)] [(.ref w_n1)])) _
    refine XS.astore X4.here hx rfl (hb hby d2_17) rfl rfl (l' := #[.val (.int (-110 : Int32)), .val (.ref w_n10), .val (.int (11 : Int32)), .val (.int (1 : Int32)), .val (.ref w_n1)]) rfl ?_
    show Steps p.tables e below (T4.setTop (mkF m 19 #[.val (.int (-110 : Int32)), .val (.ref w_n10), .val (.int (11 : Int32)), .val (.int (1 : Int32)), .val (.ref w_n1)] [])) _
    refine XS.aload X4.here hx rfl (hb hby d2_19) rfl rfl ?_
    show Steps p.tables e below (T4.setTop (mkF m 21 #[.val (.int (-110 : Int32)), .val (.ref w_n10), .val (.int (11 : Int32)), .val (.int (1 : Int32)), .val (.ref w_n1)] [(.ref w_n1)])) _
    refine st6 _ ?_
    show Steps p.tables e below (T6.setTop (mkF m 24 #[.val (.int (-110 : Int32)), .val (.ref w_n10), .val (.int (11 : Int32)), .val (.int (1 : Int32)), .val (.ref w_n1)] [(.int (-2 : Int32))])) _
    refine XS.iloadN X6.here hx rfl (hb hby d2_24) rfl ?_
    show Steps p.tables e below (T6.setTop (mkF m 25 #[.val (.int (-110 : Int32)), .val (.ref w_n10), .val (.int (11 : Int32)), .val (.int (1 : Int32)), .val (.ref w_n1)] [(.int (-110 : Int32)), (.int (-2 : Int32))])) _
    refine XS.icmpYes X6.here hx rfl (pc0 := 25) (pc' := 34) rfl (hb hby d2_25) rfl (feq ((by decide) : ¬ ((-2 : Int32) = (-110 : Int32)))).2 (by decide) (by decide) ?_
    show Steps p.tables e below (T6.setTop (mkF m 34 #[.val (.int (-110 : Int32)), .val (.ref w_n10), .val (.int (11 : Int32)), .val (.int (1 : Int32)), .val (.ref w_n1)] [])) _
    refine XS.iinc X6.here hx rfl (hb hby d2_34) rfl (l' := #[.val (.int (-110 : Int32)), .val (.ref w_n10), .val (.int (11 : Int32)), .val (.int ((1 : Int32) + (1 : Int32))), .val (.ref w_n1)]) rfl ?_
    show Steps p.tables e below (T6.setTop (mkF m 37 #[.val (.int (-110 : Int32)), .val (.ref w_n10), .val (.int (11 : Int32)), .val (.int ((1 : Int32) + (1 : Int32))), .val (.ref w_n1)] [])) _
    rw [show ((1 : Int32) + (1 : Int32)) = (2 : Int32) from by decide]
    show Steps p.tables e below (T6.setTop (mkF m 37 #[.val (.int (-110 : Int32)), .val (.ref w_n10), .val (.int (11 : Int32)), .val (.int (2 : Int32)), .val (.ref w_n1)] [])) _
    refine XS.goto X6.here hx rfl (pc0 := 37) (pc' := 9) rfl (hb hby d2_37) (by decide) (by decide) ?_
    show Steps p.tables e below (T6.setTop (mkF m 9 #[.val (.int (-110 : Int32)), .val (.ref w_n10), .val (.int (11 : Int32)), .val (.int (2 : Int32)), .val (.ref w_n1)] [])) _
    refine XS.iloadN X6.here hx rfl (hb hby d2_9) rfl ?_
    show Steps p.tables e below (T6.setTop (mkF m 10 #[.val (.int (-110 : Int32)), .val (.ref w_n10), .val (.int (11 : Int32)), .val (.int (2 : Int32)), .val (.ref w_n1)] [(.int (2 : Int32))])) _
    refine XS.iloadN X6.here hx rfl (hb hby d2_10) rfl ?_
    show Steps p.tables e below (T6.setTop (mkF m 11 #[.val (.int (-110 : Int32)), .val (.ref w_n10), .val (.int (11 : Int32)), .val (.int (2 : Int32)), .val (.ref w_n1)] [(.int (11 : Int32)), (.int (2 : Int32))])) _
    refine XS.icmpNo X6.here hx rfl (hb hby d2_11) rfl (tlt ((by decide) : (2 : Int32) < (11 : Int32))).2.1 ?_
    show Steps p.tables e below (T6.setTop (mkF m 14 #[.val (.int (-110 : Int32)), .val (.ref w_n10), .val (.int (11 : Int32)), .val (.int (2 : Int32)), .val (.ref w_n1)] [])) _
    refine XS.aloadN X6.here hx rfl (hb hby d2_14) rfl rfl ?_
    show Steps p.tables e below (T6.setTop (mkF m 15 #[.val (.int (-110 : Int32)), .val (.ref w_n10), .val (.int (11 : Int32)), .val (.int (2 : Int32)), .val (.ref w_n1)] [(.ref w_n10)])) _
    refine XS.iloadN X6.here hx rfl (hb hby d2_15) rfl ?_
    show Steps p.tables e below (T6.setTop (mkF m 16 #[.val (.int (-110 : Int32)), .val (.ref w_n10), .val (.int (11 : Int32)), .val (.int (2 : Int32)), .val (.ref w_n1)] [(.int (2 : Int32)), (.ref w_n10)])) _
    refine X6.aaload hx (j := (2 : Int32)) (v := (.ref w_n2)) (by rw [e6]; exact Ar7.1) (State.isArrayOf_alike hZ.alike Ar7.2.1) rfl Ar7.2.2 hin7 hat7 (g := (mkF m 16 #[.val (.int (-110 : Int32)), .val (.ref w_n10), .val (.int (11 : Int32)), .val (.int (2 : Int32)), .val (.ref w_n1)] [(.int (2 : Int32)), (.ref w_n10)])) rfl rfl (hb hby d2_16) _ ?_
    show Steps p.tables e below (T6.setTop (mkF m 17 #[.val (.int (-110 : Int32)), .val (.ref w_n10), .val (.int (11 : Int32)), .val (.int (2 : Int32)), .val (.ref w_n1)] [(.ref w_n2)])) _
    refine XS.astore X6.here hx rfl (hb hby d2_17) rfl rfl (l' := #[.val (.int (-110 : Int32)), .val (.ref w_n10), .val (.int (11 : Int32)), .val (.int (2 : Int32)), .val (.ref w_n2)]) rfl ?_
    show Steps p.tables e below (T6.setTop (mkF m 19 #[.val (.int (-110 : Int32)), .val (.ref w_n10), .val (.int (11 : Int32)), .val (.int (2 : Int32)), .val (.ref w_n2)] [])) _
    refine XS.aload X6.here hx rfl (hb hby d2_19) rfl rfl ?_
    show Steps p.tables e below (T6.setTop (mkF m 21 #[.val (.int (-110 : Int32)), .val (.ref w_n10), .val (.int (11 : Int32)), .val (.int (2 : Int32)), .val (.ref w_n2)] [(.ref w_n2)])) _
    refine st8 _ ?_
    show Steps p.tables e below (T8.setTop (mkF m 24 #[.val (.int (-110 : Int32)), .val (.ref w_n10), .val (.int (11 : Int32)), .val (.int (2 : Int32)), .val (.ref w_n2)] [(.int (-5 : Int32))])) _
    refine XS.iloadN X8.here hx rfl (hb hby d2_24) rfl ?_
    show Steps p.tables e below (T8.setTop (mkF m 25 #[.val (.int (-110 : Int32)), .val (.ref w_n10), .val (.int (11 : Int32)), .val (.int (2 : Int32)), .val (.ref w_n2)] [(.int (-110 : Int32)), (.int (-5 : Int32))])) _
    refine XS.icmpYes X8.here hx rfl (pc0 := 25) (pc' := 34) rfl (hb hby d2_25) rfl (feq ((by decide) : ¬ ((-5 : Int32) = (-110 : Int32)))).2 (by decide) (by decide) ?_
    show Steps p.tables e below (T8.setTop (mkF m 34 #[.val (.int (-110 : Int32)), .val (.ref w_n10), .val (.int (11 : Int32)), .val (.int (2 : Int32)), .val (.ref w_n2)] [])) _
    refine XS.iinc X8.here hx rfl (hb hby d2_34) rfl (l' := #[.val (.int (-110 : Int32)), .val (.ref w_n10), .val (.int (11 : Int32)), .val (.int ((2 : Int32) + (1 : Int32))), .val (.ref w_n2)]) rfl ?_
    show Steps p.tables e below (T8.setTop (mkF m 37 #[.val (.int (-110 : Int32)), .val (.ref w_n10), .val (.int (11 : Int32)), .val (.int ((2 : Int32) + (1 : Int32))), .val (.ref w_n2)] [])) _
    rw [show ((2 : Int32) + (1 : Int32)) = (3 : Int32) from by decide]
    show Steps p.tables e below (T8.setTop (mkF m 37 #[.val (.int (-110 : Int32)), .val (.ref w_n10), .val (.int (11 : Int32)), .val (.int (3 : Int32)), .val (.ref w_n2)] [])) _
    refine XS.goto X8.here hx rfl (pc0 := 37) (pc' := 9) rfl (hb hby d2_37) (by decide) (by decide) ?_
    show Steps p.tables e below (T8.setTop (mkF m 9 #[.val (.int (-110 : Int32)), .val (.ref w_n10), .val (.int (11 : Int32)), .val (.int (3 : Int32)), .val (.ref w_n2)] [])) _
    refine XS.iloadN X8.here hx rfl (hb hby d2_9) rfl ?_
    show Steps p.tables e below (T8.setTop (mkF m 10 #[.val (.int (-110 : Int32)), .val (.ref w_n10), .val (.int (11 : Int32)), .val (.int (3 : Int32)), .val (.ref w_n2)] [(.int (3 : Int32))])) _
    refine XS.iloadN X8.here hx rfl (hb hby d2_10) rfl ?_
    show Steps p.tables e below (T8.setTop (mkF m 11 #[.val (.int (-110 : Int32)), .val (.ref w_n10), .val (.int (11 : Int32)), .val (.int (3 : Int32)), .val (.ref w_n2)] [(.int (11 : Int32)), (.int (3 : Int32))])) _
    refine XS.icmpNo X8.here hx rfl (hb hby d2_11) rfl (tlt ((by decide) : (3 : Int32) < (11 : Int32))).2.1 ?_
    show Steps p.tables e below (T8.setTop (mkF m 14 #[.val (.int (-110 : Int32)), .val (.ref w_n10), .val (.int (11 : Int32)), .val (.int (3 : Int32)), .val (.ref w_n2)] [])) _
    refine XS.aloadN X8.here hx rfl (hb hby d2_14) rfl rfl ?_
    show Steps p.tables e below (T8.setTop (mkF m 15 #[.val (.int (-110 : Int32)), .val (.ref w_n10), .val (.int (11 : Int32)), .val (.int (3 : Int32)), .val (.ref w_n2)] [(.ref w_n10)])) _
    refine XS.iloadN X8.here hx rfl (hb hby d2_15) rfl ?_
    show Steps p.tables e below (T8.setTop (mkF m 16 #[.val (.int (-110 : Int32)), .val (.ref w_n10), .val (.int (11 : Int32)), .val (.int (3 : Int32)), .val (.ref w_n2)] [(.int (3 : Int32)), (.ref w_n10)])) _
    refine X8.aaload hx (j := (3 : Int32)) (v := (.ref w_n5)) (by rw [e8]; exact Ar9.1) (State.isArrayOf_alike hZ.alike Ar9.2.1) rfl Ar9.2.2 hin9 hat9 (g := (mkF m 16 #[.val (.int (-110 : Int32)), .val (.ref w_n10), .val (.int (11 : Int32)), .val (.int (3 : Int32)), .val (.ref w_n2)] [(.int (3 : Int32)), (.ref w_n10)])) rfl rfl (hb hby d2_16) _ ?_
    show Steps p.tables e below (T8.setTop (mkF m 17 #[.val (.int (-110 : Int32)), .val (.ref w_n10), .val (.int (11 : Int32)), .val (.int (3 : Int32)), .val (.ref w_n2)] [(.ref w_n5)])) _
    refine XS.astore X8.here hx rfl (hb hby d2_17) rfl rfl (l' := #[.val (.int (-110 : Int32)), .val (.ref w_n10), .val (.int (11 : Int32)), .val (.int (3 : Int32)), .val (.ref w_n5)]) rfl ?_
    show Steps p.tables e below (T8.setTop (mkF m 19 #[.val (.int (-110 : Int32)), .val (.ref w_n10), .val (.int (11 : Int32)), .val (.int (3 : Int32)), .val (.ref w_n5)] [])) _
    refine XS.aload X8.here hx rfl (hb hby d2_19) rfl rfl ?_
    show Steps p.tables e below (T8.setTop (mkF m 21 #[.val (.int (-110 : Int32)), .val (.ref w_n10), .val (.int (11 : Int32)), .val (.int (3 : Int32)), .val (.ref w_n5)] [(.ref w_n5)])) _
    refine st10 _ ?_
    show Steps p.tables e below (T10.setTop (mkF m 24 #[.val (.int (-110 : Int32)), .val (.ref w_n10), .val (.int (11 : Int32)), .val (.int (3 : Int32)), .val (.ref w_n5)] [(.int (-6 : Int32))])) _
    refine XS.iloadN X10.here hx rfl (hb hby d2_24) rfl ?_
    show Steps p.tables e below (T10.setTop (mkF m 25 #[.val (.int (-110 : Int32)), .val (.ref w_n10), .val (.int (11 : Int32)), .val (.int (3 : Int32)), .val (.ref w_n5)] [(.int (-110 : Int32)), (.int (-6 : Int32))])) _
    refine XS.icmpYes X10.here hx rfl (pc0 := 25) (pc' := 34) rfl (hb hby d2_25) rfl (feq ((by decide) : ¬ ((-6 : Int32) = (-110 : Int32)))).2 (by decide) (by decide) ?_
    show Steps p.tables e below (T10.setTop (mkF m 34 #[.val (.int (-110 : Int32)), .val (.ref w_n10), .val (.int (11 : Int32)), .val (.int (3 : Int32)), .val (.ref w_n5)] [])) _
    refine XS.iinc X10.here hx rfl (hb hby d2_34) rfl (l' := #[.val (.int (-110 : Int32)), .val (.ref w_n10), .val (.int (11 : Int32)), .val (.int ((3 : Int32) + (1 : Int32))), .val (.ref w_n5)]) rfl ?_
    show Steps p.tables e below (T10.setTop (mkF m 37 #[.val (.int (-110 : Int32)), .val (.ref w_n10), .val (.int (11 : Int32)), .val (.int ((3 : Int32) + (1 : Int32))), .val (.ref w_n5)] [])) _
    rw [show ((3 : Int32) + (1 : Int32)) = (4 : Int32) from by decide]
    show Steps p.tables e below (T10.setTop (mkF m 37 #[.val (.int (-110 : Int32)), .val (.ref w_n10), .val (.int (11 : Int32)), .val (.int (4 : Int32)), .val (.ref w_n5)] [])) _
    refine XS.goto X10.here hx rfl (pc0 := 37) (pc' := 9) rfl (hb hby d2_37) (by decide) (by decide) ?_
    show Steps p.tables e below (T10.setTop (mkF m 9 #[.val (.int (-110 : Int32)), .val (.ref w_n10), .val (.int (11 : Int32)), .val (.int (4 : Int32)), .val (.ref w_n5)] [])) _
    refine XS.iloadN X10.here hx rfl (hb hby d2_9) rfl ?_
    show Steps p.tables e below (T10.setTop (mkF m 10 #[.val (.int (-110 : Int32)), .val (.ref w_n10), .val (.int (11 : Int32)), .val (.int (4 : Int32)), .val (.ref w_n5)] [(.int (4 : Int32))])) _
    refine XS.iloadN X10.here hx rfl (hb hby d2_10) rfl ?_
    show Steps p.tables e below (T10.setTop (mkF m 11 #[.val (.int (-110 : Int32)), .val (.ref w_n10), .val (.int (11 : Int32)), .val (.int (4 : Int32)), .val (.ref w_n5)] [(.int (11 : Int32)), (.int (4 : Int32))])) _
    refine XS.icmpNo X10.here hx rfl (hb hby d2_11) rfl (tlt ((by decide) : (4 : Int32) < (11 : Int32))).2.1 ?_
    show Steps p.tables e below (T10.setTop (mkF m 14 #[.val (.int (-110 : Int32)), .val (.ref w_n10), .val (.int (11 : Int32)), .val (.int (4 : Int32)), .val (.ref w_n5)] [])) _
    refine XS.aloadN X10.here hx rfl (hb hby d2_14) rfl rfl ?_
    show Steps p.tables e below (T10.setTop (mkF m 15 #[.val (.int (-110 : Int32)), .val (.ref w_n10), .val (.int (11 : Int32)), .val (.int (4 : Int32)), .val (.ref w_n5)] [(.ref w_n10)])) _
    refine XS.iloadN X10.here hx rfl (hb hby d2_15) rfl ?_
    show Steps p.tables e below (T10.setTop (mkF m 16 #[.val (.int (-110 : Int32)), .val (.ref w_n10), .val (.int (11 : Int32)), .val (.int (4 : Int32)), .val (.ref w_n5)] [(.int (4 : Int32)), (.ref w_n10)])) _
    refine X10.aaload hx (j := (4 : Int32)) (v := (.ref w_n4)) (by rw [e10]; exact Ar11.1) (State.isArrayOf_alike hZ.alike Ar11.2.1) rfl Ar11.2.2 hin11 hat11 (g := (mkF m 16 #[.val (.int (-110 : Int32)), .val (.ref w_n10), .val (.int (11 : Int32)), .val (.int (4 : Int32)), .val (.ref w_n5)] [(.int (4 : Int32)), (.ref w_n10)])) rfl rfl (hb hby d2_16) _ ?_
    show Steps p.tables e below (T10.setTop (mkF m 17 #[.val (.int (-110 : Int32)), .val (.ref w_n10), .val (.int (11 : Int32)), .val (.int (4 : Int32)), .val (.ref w_n5)] [(.ref w_n4)])) _
    refine XS.astore X10.here hx rfl (hb hby d2_17) rfl rfl (l' := #[.val (.int (-110 : Int32)), .val (.ref w_n10), .val (.int (11 : Int32)), .val (.int (4 : Int32)), .val (.ref w_n4)]) rfl ?_
    show Steps p.tables e below (T10.setTop (mkF m 19 #[.val (.int (-110 : Int32)), .val (.ref w_n10), .val (.int (11 : Int32)), .val (.int (4 : Int32)), .val (.ref w_n4)] [])) _
    refine XS.aload X10.here hx rfl (hb hby d2_19) rfl rfl ?_
    show Steps p.tables e below (T10.setTop (mkF m 21 #[.val (.int (-110 : Int32)), .val (.ref w_n10), .val (.int (11 : Int32)), .val (.int (4 : Int32)), .val (.ref w_n4)] [(.ref w_n4)])) _
    refine st12 _ ?_
    show Steps p.tables e below (T12.setTop (mkF m 24 #[.val (.int (-110 : Int32)), .val (.ref w_n10), .val (.int (11 : Int32)), .val (.int (4 : Int32)), .val (.ref w_n4)] [(.int (-8 : Int32))])) _
    refine XS.iloadN X12.here hx rfl (hb hby d2_24) rfl ?_
    show Steps p.tables e below (T12.setTop (mkF m 25 #[.val (.int (-110 : Int32)), .val (.ref w_n10), .val (.int (11 : Int32)), .val (.int (4 : Int32)), .val (.ref w_n4)] [(.int (-110 : Int32)), (.int (-8 : Int32))])) _
    refine XS.icmpYes X12.here hx rfl (pc0 := 25) (pc' := 34) rfl (hb hby d2_25) rfl (feq ((by decide) : ¬ ((-8 : Int32) = (-110 : Int32)))).2 (by decide) (by decide) ?_
    show Steps p.tables e below (T12.setTop (mkF m 34 #[.val (.int (-110 : Int32)), .val (.ref w_n10), .val (.int (11 : Int32)), .val (.int (4 : Int32)), .val (.ref w_n4)] [])) _
    refine XS.iinc X12.here hx rfl (hb hby d2_34) rfl (l' := #[.val (.int (-110 : Int32)), .val (.ref w_n10), .val (.int (11 : Int32)), .val (.int ((4 : Int32) + (1 : Int32))), .val (.ref w_n4)]) rfl ?_
    show Steps p.tables e below (T12.setTop (mkF m 37 #[.val (.int (-110 : Int32)), .val (.ref w_n10), .val (.int (11 : Int32)), .val (.int ((4 : Int32) + (1 : Int32))), .val (.ref w_n4)] [])) _
    rw [show ((4 : Int32) + (1 : Int32)) = (5 : Int32) from by decide]
    show Steps p.tables e below (T12.setTop (mkF m 37 #[.val (.int (-110 : Int32)), .val (.ref w_n10), .val (.int (11 : Int32)), .val (.int (5 : Int32)), .val (.ref w_n4)] [])) _
    refine XS.goto X12.here hx rfl (pc0 := 37) (pc' := 9) rfl (hb hby d2_37) (by decide) (by decide) ?_
    show Steps p.tables e below (T12.setTop (mkF m 9 #[.val (.int (-110 : Int32)), .val (.ref w_n10), .val (.int (11 : Int32)), .val (.int (5 : Int32)), .val (.ref w_n4)] [])) _
    refine XS.iloadN X12.here hx rfl (hb hby d2_9) rfl ?_
    show Steps p.tables e below (T12.setTop (mkF m 10 #[.val (.int (-110 : Int32)), .val (.ref w_n10), .val (.int (11 : Int32)), .val (.int (5 : Int32)), .val (.ref w_n4)] [(.int (5 : Int32))])) _
    refine XS.iloadN X12.here hx rfl (hb hby d2_10) rfl ?_
    show Steps p.tables e below (T12.setTop (mkF m 11 #[.val (.int (-110 : Int32)), .val (.ref w_n10), .val (.int (11 : Int32)), .val (.int (5 : Int32)), .val (.ref w_n4)] [(.int (11 : Int32)), (.int (5 : Int32))])) _
    refine XS.icmpNo X12.here hx rfl (hb hby d2_11) rfl (tlt ((by decide) : (5 : Int32) < (11 : Int32))).2.1 ?_
    show Steps p.tables e below (T12.setTop (mkF m 14 #[.val (.int (-110 : Int32)), .val (.ref w_n10), .val (.int (11 : Int32)), .val (.int (5 : Int32)), .val (.ref w_n4)] [])) _
    refine XS.aloadN X12.here hx rfl (hb hby d2_14) rfl rfl ?_
    show Steps p.tables e below (T12.setTop (mkF m 15 #[.val (.int (-110 : Int32)), .val (.ref w_n10), .val (.int (11 : Int32)), .val (.int (5 : Int32)), .val (.ref w_n4)] [(.ref w_n10)])) _
    refine XS.iloadN X12.here hx rfl (hb hby d2_15) rfl ?_
    show Steps p.tables e below (T12.setTop (mkF m 16 #[.val (.int (-110 : Int32)), .val (.ref w_n10), .val (.int (11 : Int32)), .val (.int (5 : Int32)), .val (.ref w_n4)] [(.int (5 : Int32)), (.ref w_n10)])) _
    refine X12.aaload hx (j := (5 : Int32)) (v := (.ref w_n9)) (by rw [e12]; exact Ar13.1) (State.isArrayOf_alike hZ.alike Ar13.2.1) rfl Ar13.2.2 hin13 hat13 (g := (mkF m 16 #[.val (.int (-110 : Int32)), .val (.ref w_n10), .val (.int (11 : Int32)), .val (.int (5 : Int32)), .val (.ref w_n4)] [(.int (5 : Int32)), (.ref w_n10)])) rfl rfl (hb hby d2_16) _ ?_
    show Steps p.tables e below (T12.setTop (mkF m 17 #[.val (.int (-110 : Int32)), .val (.ref w_n10), .val (.int (11 : Int32)), .val (.int (5 : Int32)), .val (.ref w_n4)] [(.ref w_n9)])) _
    refine XS.astore X12.here hx rfl (hb hby d2_17) rfl rfl (l' := #[.val (.int (-110 : Int32)), .val (.ref w_n10), .val (.int (11 : Int32)), .val (.int (5 : Int32)), .val (.ref w_n9)]) rfl ?_
    show Steps p.tables e below (T12.setTop (mkF m 19 #[.val (.int (-110 : Int32)), .val (.ref w_n10), .val (.int (11 : Int32)), .val (.int (5 : Int32)), .val (.ref w_n9)] [])) _
    refine XS.aload X12.here hx rfl (hb hby d2_19) rfl rfl ?_
    show Steps p.tables e below (T12.setTop (mkF m 21 #[.val (.int (-110 : Int32)), .val (.ref w_n10), .val (.int (11 : Int32)), .val (.int (5 : Int32)), .val (.ref w_n9)] [(.ref w_n9)])) _
    refine st14 _ ?_
    show Steps p.tables e below (T14.setTop (mkF m 24 #[.val (.int (-110 : Int32)), .val (.ref w_n10), .val (.int (11 : Int32)), .val (.int (5 : Int32)), .val (.ref w_n9)] [(.int (-101 : Int32))])) _
    refine XS.iloadN X14.here hx rfl (hb hby d2_24) rfl ?_
    show Steps p.tables e below (T14.setTop (mkF m 25 #[.val (.int (-110 : Int32)), .val (.ref w_n10), .val (.int (11 : Int32)), .val (.int (5 : Int32)), .val (.ref w_n9)] [(.int (-110 : Int32)), (.int (-101 : Int32))])) _
    refine XS.icmpYes X14.here hx rfl (pc0 := 25) (pc' := 34) rfl (hb hby d2_25) rfl (feq ((by decide) : ¬ ((-101 : Int32) = (-110 : Int32)))).2 (by decide) (by decide) ?_
    show Steps p.tables e below (T14.setTop (mkF m 34 #[.val (.int (-110 : Int32)), .val (.ref w_n10), .val (.int (11 : Int32)), .val (.int (5 : Int32)), .val (.ref w_n9)] [])) _
    refine XS.iinc X14.here hx rfl (hb hby d2_34) rfl (l' := #[.val (.int (-110 : Int32)), .val (.ref w_n10), .val (.int (11 : Int32)), .val (.int ((5 : Int32) + (1 : Int32))), .val (.ref w_n9)]) rfl ?_
    show Steps p.tables e below (T14.setTop (mkF m 37 #[.val (.int (-110 : Int32)), .val (.ref w_n10), .val (.int (11 : Int32)), .val (.int ((5 : Int32) + (1 : Int32))), .val (.ref w_n9)] [])) _
    rw [show ((5 : Int32) + (1 : Int32)) = (6 : Int32) from by decide]
    show Steps p.tables e below (T14.setTop (mkF m 37 #[.val (.int (-110 : Int32)), .val (.ref w_n10), .val (.int (11 : Int32)), .val (.int (6 : Int32)), .val (.ref w_n9)] [])) _
    refine XS.goto X14.here hx rfl (pc0 := 37) (pc' := 9) rfl (hb hby d2_37) (by decide) (by decide) ?_
    show Steps p.tables e below (T14.setTop (mkF m 9 #[.val (.int (-110 : Int32)), .val (.ref w_n10), .val (.int (11 : Int32)), .val (.int (6 : Int32)), .val (.ref w_n9)] [])) _
    refine XS.iloadN X14.here hx rfl (hb hby d2_9) rfl ?_
    show Steps p.tables e below (T14.setTop (mkF m 10 #[.val (.int (-110 : Int32)), .val (.ref w_n10), .val (.int (11 : Int32)), .val (.int (6 : Int32)), .val (.ref w_n9)] [(.int (6 : Int32))])) _
    refine XS.iloadN X14.here hx rfl (hb hby d2_10) rfl ?_
    show Steps p.tables e below (T14.setTop (mkF m 11 #[.val (.int (-110 : Int32)), .val (.ref w_n10), .val (.int (11 : Int32)), .val (.int (6 : Int32)), .val (.ref w_n9)] [(.int (11 : Int32)), (.int (6 : Int32))])) _
    refine XS.icmpNo X14.here hx rfl (hb hby d2_11) rfl (tlt ((by decide) : (6 : Int32) < (11 : Int32))).2.1 ?_
    show Steps p.tables e below (T14.setTop (mkF m 14 #[.val (.int (-110 : Int32)), .val (.ref w_n10), .val (.int (11 : Int32)), .val (.int (6 : Int32)), .val (.ref w_n9)] [])) _
    refine XS.aloadN X14.here hx rfl (hb hby d2_14) rfl rfl ?_
    show Steps p.tables e below (T14.setTop (mkF m 15 #[.val (.int (-110 : Int32)), .val (.ref w_n10), .val (.int (11 : Int32)), .val (.int (6 : Int32)), .val (.ref w_n9)] [(.ref w_n10)])) _
    refine XS.iloadN X14.here hx rfl (hb hby d2_15) rfl ?_
    show Steps p.tables e below (T14.setTop (mkF m 16 #[.val (.int (-110 : Int32)), .val (.ref w_n10), .val (.int (11 : Int32)), .val (.int (6 : Int32)), .val (.ref w_n9)] [(.int (6 : Int32)), (.ref w_n10)])) _
    refine X14.aaload hx (j := (6 : Int32)) (v := (.ref w_n6)) (by rw [e14]; exact Ar15.1) (State.isArrayOf_alike hZ.alike Ar15.2.1) rfl Ar15.2.2 hin15 hat15 (g := (mkF m 16 #[.val (.int (-110 : Int32)), .val (.ref w_n10), .val (.int (11 : Int32)), .val (.int (6 : Int32)), .val (.ref w_n9)] [(.int (6 : Int32)), (.ref w_n10)])) rfl rfl (hb hby d2_16) _ ?_
    show Steps p.tables e below (T14.setTop (mkF m 17 #[.val (.int (-110 : Int32)), .val (.ref w_n10), .val (.int (11 : Int32)), .val (.int (6 : Int32)), .val (.ref w_n9)] [(.ref w_n6)])) _
    refine XS.astore X14.here hx rfl (hb hby d2_17) rfl rfl (l' := #[.val (.int (-110 : Int32)), .val (.ref w_n10), .val (.int (11 : Int32)), .val (.int (6 : Int32)), .val (.ref w_n6)]) rfl ?_
    show Steps p.tables e below (T14.setTop (mkF m 19 #[.val (.int (-110 : Int32)), .val (.ref w_n10), .val (.int (11 : Int32)), .val (.int (6 : Int32)), .val (.ref w_n6)] [])) _
    refine XS.aload X14.here hx rfl (hb hby d2_19) rfl rfl ?_
    show Steps p.tables e below (T14.setTop (mkF m 21 #[.val (.int (-110 : Int32)), .val (.ref w_n10), .val (.int (11 : Int32)), .val (.int (6 : Int32)), .val (.ref w_n6)] [(.ref w_n6)])) _
    refine st16 _ ?_
    show Steps p.tables e below (T16.setTop (mkF m 24 #[.val (.int (-110 : Int32)), .val (.ref w_n10), .val (.int (11 : Int32)), .val (.int (6 : Int32)), .val (.ref w_n6)] [(.int (-103 : Int32))])) _
    refine XS.iloadN X16.here hx rfl (hb hby d2_24) rfl ?_
    show Steps p.tables e below (T16.setTop (mkF m 25 #[.val (.int (-110 : Int32)), .val (.ref w_n10), .val (.int (11 : Int32)), .val (.int (6 : Int32)), .val (.ref w_n6)] [(.int (-110 : Int32)), (.int (-103 : Int32))])) _
    refine XS.icmpYes X16.here hx rfl (pc0 := 25) (pc' := 34) rfl (hb hby d2_25) rfl (feq ((by decide) : ¬ ((-103 : Int32) = (-110 : Int32)))).2 (by decide) (by decide) ?_
    show Steps p.tables e below (T16.setTop (mkF m 34 #[.val (.int (-110 : Int32)), .val (.ref w_n10), .val (.int (11 : Int32)), .val (.int (6 : Int32)), .val (.ref w_n6)] [])) _
    refine XS.iinc X16.here hx rfl (hb hby d2_34) rfl (l' := #[.val (.int (-110 : Int32)), .val (.ref w_n10), .val (.int (11 : Int32)), .val (.int ((6 : Int32) + (1 : Int32))), .val (.ref w_n6)]) rfl ?_
    show Steps p.tables e below (T16.setTop (mkF m 37 #[.val (.int (-110 : Int32)), .val (.ref w_n10), .val (.int (11 : Int32)), .val (.int ((6 : Int32) + (1 : Int32))), .val (.ref w_n6)] [])) _
    rw [show ((6 : Int32) + (1 : Int32)) = (7 : Int32) from by decide]
    show Steps p.tables e below (T16.setTop (mkF m 37 #[.val (.int (-110 : Int32)), .val (.ref w_n10), .val (.int (11 : Int32)), .val (.int (7 : Int32)), .val (.ref w_n6)] [])) _
    refine XS.goto X16.here hx rfl (pc0 := 37) (pc' := 9) rfl (hb hby d2_37) (by decide) (by decide) ?_
    show Steps p.tables e below (T16.setTop (mkF m 9 #[.val (.int (-110 : Int32)), .val (.ref w_n10), .val (.int (11 : Int32)), .val (.int (7 : Int32)), .val (.ref w_n6)] [])) _
    refine XS.iloadN X16.here hx rfl (hb hby d2_9) rfl ?_
    show Steps p.tables e below (T16.setTop (mkF m 10 #[.val (.int (-110 : Int32)), .val (.ref w_n10), .val (.int (11 : Int32)), .val (.int (7 : Int32)), .val (.ref w_n6)] [(.int (7 : Int32))])) _
    refine XS.iloadN X16.here hx rfl (hb hby d2_10) rfl ?_
    show Steps p.tables e below (T16.setTop (mkF m 11 #[.val (.int (-110 : Int32)), .val (.ref w_n10), .val (.int (11 : Int32)), .val (.int (7 : Int32)), .val (.ref w_n6)] [(.int (11 : Int32)), (.int (7 : Int32))])) _
    refine XS.icmpNo X16.here hx rfl (hb hby d2_11) rfl (tlt ((by decide) : (7 : Int32) < (11 : Int32))).2.1 ?_
    show Steps p.tables e below (T16.setTop (mkF m 14 #[.val (.int (-110 : Int32)), .val (.ref w_n10), .val (.int (11 : Int32)), .val (.int (7 : Int32)), .val (.ref w_n6)] [])) _
    refine XS.aloadN X16.here hx rfl (hb hby d2_14) rfl rfl ?_
    show Steps p.tables e below (T16.setTop (mkF m 15 #[.val (.int (-110 : Int32)), .val (.ref w_n10), .val (.int (11 : Int32)), .val (.int (7 : Int32)), .val (.ref w_n6)] [(.ref w_n10)])) _
    refine XS.iloadN X16.here hx rfl (hb hby d2_15) rfl ?_
    show Steps p.tables e below (T16.setTop (mkF m 16 #[.val (.int (-110 : Int32)), .val (.ref w_n10), .val (.int (11 : Int32)), .val (.int (7 : Int32)), .val (.ref w_n6)] [(.int (7 : Int32)), (.ref w_n10)])) _
    refine X16.aaload hx (j := (7 : Int32)) (v := (.ref w_n0)) (by rw [e16]; exact Ar17.1) (State.isArrayOf_alike hZ.alike Ar17.2.1) rfl Ar17.2.2 hin17 hat17 (g := (mkF m 16 #[.val (.int (-110 : Int32)), .val (.ref w_n10), .val (.int (11 : Int32)), .val (.int (7 : Int32)), .val (.ref w_n6)] [(.int (7 : Int32)), (.ref w_n10)])) rfl rfl (hb hby d2_16) _ ?_
    show Steps p.tables e below (T16.setTop (mkF m 17 #[.val (.int (-110 : Int32)), .val (.ref w_n10), .val (.int (11 : Int32)), .val (.int (7 : Int32)), .val (.ref w_n6)] [(.ref w_n0)])) _
    refine XS.astore X16.here hx rfl (hb hby d2_17) rfl rfl (l' := #[.val (.int (-110 : Int32)), .val (.ref w_n10), .val (.int (11 : Int32)), .val (.int (7 : Int32)), .val (.ref w_n0)]) rfl ?_
    show Steps p.tables e below (T16.setTop (mkF m 19 #[.val (.int (-110 : Int32)), .val (.ref w_n10), .val (.int (11 : Int32)), .val (.int (7 : Int32)), .val (.ref w_n0)] [])) _
    refine XS.aload X16.here hx rfl (hb hby d2_19) rfl rfl ?_
    show Steps p.tables e below (T16.setTop (mkF m 21 #[.val (.int (-110 : Int32)), .val (.ref w_n10), .val (.int (11 : Int32)), .val (.int (7 : Int32)), .val (.ref w_n0)] [(.ref w_n0)])) _
    refine st18 _ ?_
    show Steps p.tables e below (T18.setTop (mkF m 24 #[.val (.int (-110 : Int32)), .val (.ref w_n10), .val (.int (11 : Int32)), .val (.int (7 : Int32)), .val (.ref w_n0)] [(.int (-108 : Int32))])) _
    refine XS.iloadN X18.here hx rfl (hb hby d2_24) rfl ?_
    show Steps p.tables e below (T18.setTop (mkF m 25 #[.val (.int (-110 : Int32)), .val (.ref w_n10), .val (.int (11 : Int32)), .val (.int (7 : Int32)), .val (.ref w_n0)] [(.int (-110 : Int32)), (.int (-108 : Int32))])) _
    refine XS.icmpYes X18.here hx rfl (pc0 := 25) (pc' := 34) rfl (hb hby d2_25) rfl (feq ((by decide) : ¬ ((-108 : Int32) = (-110 : Int32)))).2 (by decide) (by decide) ?_
    show Steps p.tables e below (T18.setTop (mkF m 34 #[.val (.int (-110 : Int32)), .val (.ref w_n10), .val (.int (11 : Int32)), .val (.int (7 : Int32)), .val (.ref w_n0)] [])) _
    refine XS.iinc X18.here hx rfl (hb hby d2_34) rfl (l' := #[.val (.int (-110 : Int32)), .val (.ref w_n10), .val (.int (11 : Int32)), .val (.int ((7 : Int32) + (1 : Int32))), .val (.ref w_n0)]) rfl ?_
    show Steps p.tables e below (T18.setTop (mkF m 37 #[.val (.int (-110 : Int32)), .val (.ref w_n10), .val (.int (11 : Int32)), .val (.int ((7 : Int32) + (1 : Int32))), .val (.ref w_n0)] [])) _
    rw [show ((7 : Int32) + (1 : Int32)) = (8 : Int32) from by decide]
    show Steps p.tables e below (T18.setTop (mkF m 37 #[.val (.int (-110 : Int32)), .val (.ref w_n10), .val (.int (11 : Int32)), .val (.int (8 : Int32)), .val (.ref w_n0)] [])) _
    refine XS.goto X18.here hx rfl (pc0 := 37) (pc' := 9) rfl (hb hby d2_37) (by decide) (by decide) ?_
    show Steps p.tables e below (T18.setTop (mkF m 9 #[.val (.int (-110 : Int32)), .val (.ref w_n10), .val (.int (11 : Int32)), .val (.int (8 : Int32)), .val (.ref w_n0)] [])) _
    refine XS.iloadN X18.here hx rfl (hb hby d2_9) rfl ?_
    show Steps p.tables e below (T18.setTop (mkF m 10 #[.val (.int (-110 : Int32)), .val (.ref w_n10), .val (.int (11 : Int32)), .val (.int (8 : Int32)), .val (.ref w_n0)] [(.int (8 : Int32))])) _
    refine XS.iloadN X18.here hx rfl (hb hby d2_10) rfl ?_
    show Steps p.tables e below (T18.setTop (mkF m 11 #[.val (.int (-110 : Int32)), .val (.ref w_n10), .val (.int (11 : Int32)), .val (.int (8 : Int32)), .val (.ref w_n0)] [(.int (11 : Int32)), (.int (8 : Int32))])) _
    refine XS.icmpNo X18.here hx rfl (hb hby d2_11) rfl (tlt ((by decide) : (8 : Int32) < (11 : Int32))).2.1 ?_
    show Steps p.tables e below (T18.setTop (mkF m 14 #[.val (.int (-110 : Int32)), .val (.ref w_n10), .val (.int (11 : Int32)), .val (.int (8 : Int32)), .val (.ref w_n0)] [])) _
    refine XS.aloadN X18.here hx rfl (hb hby d2_14) rfl rfl ?_
    show Steps p.tables e below (T18.setTop (mkF m 15 #[.val (.int (-110 : Int32)), .val (.ref w_n10), .val (.int (11 : Int32)), .val (.int (8 : Int32)), .val (.ref w_n0)] [(.ref w_n10)])) _
    refine XS.iloadN X18.here hx rfl (hb hby d2_15) rfl ?_
    show Steps p.tables e below (T18.setTop (mkF m 16 #[.val (.int (-110 : Int32)), .val (.ref w_n10), .val (.int (11 : Int32)), .val (.int (8 : Int32)), .val (.ref w_n0)] [(.int (8 : Int32)), (.ref w_n10)])) _
    refine X18.aaload hx (j := (8 : Int32)) (v := (.ref w_n7)) (by rw [e18]; exact Ar19.1) (State.isArrayOf_alike hZ.alike Ar19.2.1) rfl Ar19.2.2 hin19 hat19 (g := (mkF m 16 #[.val (.int (-110 : Int32)), .val (.ref w_n10), .val (.int (11 : Int32)), .val (.int (8 : Int32)), .val (.ref w_n0)] [(.int (8 : Int32)), (.ref w_n10)])) rfl rfl (hb hby d2_16) _ ?_
    show Steps p.tables e below (T18.setTop (mkF m 17 #[.val (.int (-110 : Int32)), .val (.ref w_n10), .val (.int (11 : Int32)), .val (.int (8 : Int32)), .val (.ref w_n0)] [(.ref w_n7)])) _
    refine XS.astore X18.here hx rfl (hb hby d2_17) rfl rfl (l' := #[.val (.int (-110 : Int32)), .val (.ref w_n10), .val (.int (11 : Int32)), .val (.int (8 : Int32)), .val (.ref w_n7)]) rfl ?_
    show Steps p.tables e below (T18.setTop (mkF m 19 #[.val (.int (-110 : Int32)), .val (.ref w_n10), .val (.int (11 : Int32)), .val (.int (8 : Int32)), .val (.ref w_n7)] [])) _
    refine XS.aload X18.here hx rfl (hb hby d2_19) rfl rfl ?_
    show Steps p.tables e below (T18.setTop (mkF m 21 #[.val (.int (-110 : Int32)), .val (.ref w_n10), .val (.int (11 : Int32)), .val (.int (8 : Int32)), .val (.ref w_n7)] [(.ref w_n7)])) _
    refine st20 _ ?_
    show Steps p.tables e below (T20.setTop (mkF m 24 #[.val (.int (-110 : Int32)), .val (.ref w_n10), .val (.int (11 : Int32)), .val (.int (8 : Int32)), .val (.ref w_n7)] [(.int (-110 : Int32))])) _
    refine XS.iloadN X20.here hx rfl (hb hby d2_24) rfl ?_
    show Steps p.tables e below (T20.setTop (mkF m 25 #[.val (.int (-110 : Int32)), .val (.ref w_n10), .val (.int (11 : Int32)), .val (.int (8 : Int32)), .val (.ref w_n7)] [(.int (-110 : Int32)), (.int (-110 : Int32))])) _
    refine XS.icmpNo X20.here hx rfl (hb hby d2_25) rfl (teq ((by decide) : (-110 : Int32) = (-110 : Int32))).2 ?_
    show Steps p.tables e below (T20.setTop (mkF m 28 #[.val (.int (-110 : Int32)), .val (.ref w_n10), .val (.int (11 : Int32)), .val (.int (8 : Int32)), .val (.ref w_n7)] [])) _
    refine XS.aload X20.here hx rfl (hb hby d2_28) rfl rfl ?_
    show Steps p.tables e below (T20.setTop (mkF m 30 #[.val (.int (-110 : Int32)), .val (.ref w_n10), .val (.int (11 : Int32)), .val (.int (8 : Int32)), .val (.ref w_n7)] [(.ref w_n7)])) _
    refine st21 _ ?_
    show Steps p.tables e below (T21.setTop (mkF m 33 #[.val (.int (-110 : Int32)), .val (.ref w_n10), .val (.int (11 : Int32)), .val (.int (8 : Int32)), .val (.ref w_n7)] [(.ref b21_b1)])) _
    jvm_step X21.here [X21.here.top, hx, (hb hby d2_33), X21.method', Bd.returns, Value.isRef, FieldType.isReference]
    first | (intro acts; rw [hr _ acts rfl rfl rfl]) | rw [hr _ _ rfl rfl rfl]
    exact Steps.refl _
  · show QW (fun v h => ∃ b21_b1 : Addr, v = some (.ref b21_b1) ∧ Keep h0 h [] ∧ n0 ≤ b21_b1 ∧ h0.size ≤ b21_b1 ∧ Exa Z h b21_b1 "java/util/Optional" ∧ Fld Z h b21_b1 "java/util/Optional" "value" "Ljava/lang/Object;" (.ref w_n7)) n0 _ T21.heap _
    exact ⟨N21, ⟨b21_b1, rfl, K21, g_b21_b1, sz_b21_b1, fp21_0, fp21_1⟩⟩
theorem d8_78 : decode method_2_code 78 = .ok (.iload_n 0, 1) := by decide +kernel
theorem d8_79 : decode method_2_code 79 = .ok (.bipush (-110), 2) := by decide +kernel
theorem d8_81 : decode method_2_code 81 = .ok (.if_icmp .ne 7, 3) := by decide +kernel
theorem d8_84 : decode method_2_code 84 = .ok (.getstatic 34, 3) := by decide +kernel
theorem d8_87 : decode method_2_code 87 = .ok (.areturn, 1) := by decide +kernel
set_option maxRecDepth 65536 in
set_option maxHeartbeats 40000000 in
theorem rm_ex8 (l : Launch) (Z : State) (a0 : Array Value) (hw : ∀ d ∈ tables_1, d.before a0 Z = true) (ws : List Jvm.Cond) {w_n5 : Addr} {w_n10 : Addr} {w_OK : Addr} {w_n1 : Addr} {w_n2 : Addr} {w_n4 : Addr} {w_n9 : Addr} {w_n6 : Addr} {w_n0 : Addr} {w_n7 : Addr} {w_n8 : Addr} {w_n3 : Addr} {w_n11 : Addr} {k_n10 : ClassId} (W : Wd Z w_n5 w_n10 w_OK w_n1 w_n2 w_n4 w_n9 w_n6 w_n0 w_n7 w_n8 w_n3 w_n11 k_n10) (h0 : Heap) (n0 : Nat) (O0 : Old Z n0 h0) :
    MetFree l (⟨"com/example/usher/usher/wire/ErrorCodeForCodePinLaw", "expected", "(I)Lcom/example/usher/usher/wire/ErrorCode;"⟩ : MethodName) (head1 (Jvm.Cond.code (⟨"com/example/usher/usher/wire/ErrorCodeForCodePinLaw", "expected", "(I)Lcom/example/usher/usher/wire/ErrorCode;"⟩ : MethodName) method_2_code 1 (some (.object "com/example/usher/usher/wire/ErrorCode")) :: ws) ({ frames := 0, cells := 0, slots := 0, locals := 0 } : Room)) (fun a U => a = #[(.int (-110 : Int32))] ∧ Z.Warmed39 U.vm ∧ U.heap = h0) (fun _ _ _ _ _ => True) (fun _ U o U' => ∃ v L, o = .returned v ∧ QP (some (.ref w_n7)) h0 n0 v U'.heap L ∧ FrameEnd U o U' L ({ frames := 0, cells := 0, slots := 0, locals := 0 } : Room).cells ({ frames := 0, cells := 0, slots := 0, locals := 0 } : Room).slots) := by
  have W' := W; obtain ⟨S_n5, E_n5, S_n10, S_OK, E_OK, S_n1, E_n1, S_n2, E_n2, S_n4, E_n4, S_n9, E_n9, S_n6, E_n6, S_n0, E_n0, S_n7, E_n7, S_n8, E_n8, S_n3, E_n3, S_n11, E_n11, F_OK_code, F_n5_code, F_n1_code, F_n2_code, F_n4_code, F_n9_code, F_n6_code, F_n0_code, F_n7_code, F_n8_code, F_n3_code, F_n11_value, V_n10⟩ := W'
  refine MetFree.of_bodySF (plainFor_of_name pn_8) hisR ?_
  intro p e s m args below meth c s₁ Bd hml0 hP hK
  obtain ⟨rfl, hZ, hh⟩ := hP
  have hx := Bd.exec
  have hby := Bd.bytes
  have hml : c.maxLocals = 1 := hml0
  have hown : s.vm.findClass "com/example/usher/usher/wire/ErrorCodeForCodePinLaw" = some m.cls := findClass_of_methodNamed Bd.named
  have hnm := (name_of_methodNamed Bd.named Bd.method).1
  have X0 : Stand p l e ({ frames := 0, cells := 0, slots := 0, locals := 0 } : Room) s m #[(.int (-110 : Int32))] below meth c s₁ [] 0 0 := Stand.of_body Bd
  have e0 : s₁.heap = h0 := by rw [← hh, Bd.state]; rfl
  have N0 := Fr.nil n0
  have pre0 : ∀ t, Steps p.tables e below (s₁.setTop (mkF m 0 #[.val (.int (-110 : Int32))] [])) t → Steps p.tables e below (s₁.setTop (entryFrame m #[(.int (-110 : Int32))] 1)) t := fun t k => castTop (ef_8_5 m (-110 : Int32)) k
  obtain ⟨T1, X1, e1, st1⟩ := getS2 X0 hx hZ hown (host := "") (Or.inl (hw _ (List.mem_of_getElem? (i := 71) rfl))) Via.refl e0 (S_n7.ext O0.2) (g := (mkF m 84 #[.val (.int (-110 : Int32))] [])) rfl (hb hby d8_84)
  obtain ⟨fs, hr, hrun, hended, hW, hsame⟩ := X1.leave (v := some (.ref w_n7)) (fun h => by rw [Bd.returns] at h; cases h)
  refine ⟨_, _, pre0 _ ?_, hrun, hended, _, _, rfl, ?_, ⟨_, rfl⟩, hW, hsame.mono (by decide) (by decide)⟩
  · show Steps p.tables e below (s₁.setTop (mkF m 0 #[.val (.int (-110 : Int32))] [])) _
    refine XS.iloadN X0.here hx rfl (hb hby d8_0) rfl ?_
    show Steps p.tables e below (s₁.setTop (mkF m 1 #[.val (.int (-110 : Int32))] [(.int (-110 : Int32))])) _
    refine XS.ifYes X0.here hx rfl (pc0 := 1) (pc' := 8) rfl (hb hby d8_1) rfl ((if0 _ _).trans (feq ((by decide) : ¬ ((-110 : Int32) = (0 : Int32)))).2) (by decide) (by decide) ?_
    show Steps p.tables e below (s₁.setTop (mkF m 8 #[.val (.int (-110 : Int32))] [])) _
    refine XS.iloadN X0.here hx rfl (hb hby d8_8) rfl ?_
    show Steps p.tables e below (s₁.setTop (mkF m 9 #[.val (.int (-110 : Int32))] [(.int (-110 : Int32))])) _
    refine XS.bipush X0.here hx rfl (hb hby d8_9) ?_
    show Steps p.tables e below (s₁.setTop (mkF m 11 #[.val (.int (-110 : Int32))] [(.int (-2 : Int32)), (.int (-110 : Int32))])) _
    refine XS.icmpYes X0.here hx rfl (pc0 := 11) (pc' := 18) rfl (hb hby d8_11) rfl (feq ((by decide) : ¬ ((-110 : Int32) = (-2 : Int32)))).2 (by decide) (by decide) ?_
    show Steps p.tables e below (s₁.setTop (mkF m 18 #[.val (.int (-110 : Int32))] [])) _
    refine XS.iloadN X0.here hx rfl (hb hby d8_18) rfl ?_
    show Steps p.tables e below (s₁.setTop (mkF m 19 #[.val (.int (-110 : Int32))] [(.int (-110 : Int32))])) _
    refine XS.bipush X0.here hx rfl (hb hby d8_19) ?_
    show Steps p.tables e below (s₁.setTop (mkF m 21 #[.val (.int (-110 : Int32))] [(.int (-5 : Int32)), (.int (-110 : Int32))])) _
    refine XS.icmpYes X0.here hx rfl (pc0 := 21) (pc' := 28) rfl (hb hby d8_21) rfl (feq ((by decide) : ¬ ((-110 : Int32) = (-5 : Int32)))).2 (by decide) (by decide) ?_
    show Steps p.tables e below (s₁.setTop (mkF m 28 #[.val (.int (-110 : Int32))] [])) _
    refine XS.iloadN X0.here hx rfl (hb hby d8_28) rfl ?_
    show Steps p.tables e below (s₁.setTop (mkF m 29 #[.val (.int (-110 : Int32))] [(.int (-110 : Int32))])) _
    refine XS.bipush X0.here hx rfl (hb hby d8_29) ?_
    show Steps p.tables e below (s₁.setTop (mkF m 31 #[.val (.int (-110 : Int32))] [(.int (-6 : Int32)), (.int (-110 : Int32))])) _
    refine XS.icmpYes X0.here hx rfl (pc0 := 31) (pc' := 38) rfl (hb hby d8_31) rfl (feq ((by decide) : ¬ ((-110 : Int32) = (-6 : Int32)))).2 (by decide) (by decide) ?_
    show Steps p.tables e below (s₁.setTop (mkF m 38 #[.val (.int (-110 : Int32))] [])) _
    refine XS.iloadN X0.here hx rfl (hb hby d8_38) rfl ?_
    show Steps p.tables e below (s₁.setTop (mkF m 39 #[.val (.int (-110 : Int32))] [(.int (-110 : Int32))])) _
    refine XS.bipush X0.here hx rfl (hb hby d8_39) ?_
    show Steps p.tables e below (s₁.setTop (mkF m 41 #[.val (.int (-110 : Int32))] [(.int (-8 : Int32)), (.int (-110 : Int32))])) _
    refine XS.icmpYes X0.here hx rfl (pc0 := 41) (pc' := 48) rfl (hb hby d8_41) rfl (feq ((by decide) : ¬ ((-110 : Int32) = (-8 : Int32)))).2 (by decide) (by decide) ?_
    show Steps p.tables e below (s₁.setTop (mkF m 48 #[.val (.int (-110 : Int32))] [])) _
    refine XS.iloadN X0.here hx rfl (hb hby d8_48) rfl ?_
    show Steps p.tables e below (s₁.setTop (mkF m 49 #[.val (.int (-110 : Int32))] [(.int (-110 : Int32))])) _
    refine XS.bipush X0.here hx rfl (hb hby d8_49) ?_
    show Steps p.tables e below (s₁.setTop (mkF m 51 #[.val (.int (-110 : Int32))] [(.int (-101 : Int32)), (.int (-110 : Int32))])) _
    refine XS.icmpYes X0.here hx rfl (pc0 := 51) (pc' := 58) rfl (hb hby d8_51) rfl (feq ((by decide) : ¬ ((-110 : Int32) = (-101 : Int32)))).2 (by decide) (by decide) ?_
    show Steps p.tables e below (s₁.setTop (mkF m 58 #[.val (.int (-110 : Int32))] [])) _
    refine XS.iloadN X0.here hx rfl (hb hby d8_58) rfl ?_
    show Steps p.tables e below (s₁.setTop (mkF m 59 #[.val (.int (-110 : Int32))] [(.int (-110 : Int32))])) _
    refine XS.bipush X0.here hx rfl (hb hby d8_59) ?_
    show Steps p.tables e below (s₁.setTop (mkF m 61 #[.val (.int (-110 : Int32))] [(.int (-103 : Int32)), (.int (-110 : Int32))])) _
    refine XS.icmpYes X0.here hx rfl (pc0 := 61) (pc' := 68) rfl (hb hby d8_61) rfl (feq ((by decide) : ¬ ((-110 : Int32) = (-103 : Int32)))).2 (by decide) (by decide) ?_
    show Steps p.tables e below (s₁.setTop (mkF m 68 #[.val (.int (-110 : Int32))] [])) _
    refine XS.iloadN X0.here hx rfl (hb hby d8_68) rfl ?_
    show Steps p.tables e below (s₁.setTop (mkF m 69 #[.val (.int (-110 : Int32))] [(.int (-110 : Int32))])) _
    refine XS.bipush X0.here hx rfl (hb hby d8_69) ?_
    show Steps p.tables e below (s₁.setTop (mkF m 71 #[.val (.int (-110 : Int32))] [(.int (-108 : Int32)), (.int (-110 : Int32))])) _
    refine XS.icmpYes X0.here hx rfl (pc0 := 71) (pc' := 78) rfl (hb hby d8_71) rfl (feq ((by decide) : ¬ ((-110 : Int32) = (-108 : Int32)))).2 (by decide) (by decide) ?_
    show Steps p.tables e below (s₁.setTop (mkF m 78 #[.val (.int (-110 : Int32))] [])) _
    refine XS.iloadN X0.here hx rfl (hb hby d8_78) rfl ?_
    show Steps p.tables e below (s₁.setTop (mkF m 79 #[.val (.int (-110 : Int32))] [(.int (-110 : Int32))])) _
    refine XS.bipush X0.here hx rfl (hb hby d8_79) ?_
    show Steps p.tables e below (s₁.setTop (mkF m 81 #[.val (.int (-110 : Int32))] [(.int (-110 : Int32)), (.int (-110 : Int32))])) _
    refine XS.icmpNo X0.here hx rfl (hb hby d8_81) rfl (teq ((by decide) : (-110 : Int32) = (-110 : Int32))).2 ?_
    show Steps p.tables e below (s₁.setTop (mkF m 84 #[.val (.int (-110 : Int32))] [])) _
    refine st1 _ ?_
    show Steps p.tables e below (T1.setTop (mkF m 87 #[.val (.int (-110 : Int32))] [(.ref w_n7)])) _
    jvm_step X1.here [X1.here.top, hx, (hb hby d8_87), X1.method', Bd.returns, Value.isRef, FieldType.isReference]
    first | (intro acts; rw [hr _ acts rfl rfl rfl]) | rw [hr _ _ rfl rfl rfl]
    exact Steps.refl _
  · show QP (some (.ref w_n7)) h0 n0 _ T1.heap _
    rw [e1]
    exact ⟨rfl, N0, rfl⟩
theorem d1_73 : decode method_3_code 73 = .ok (.iload_n 0, 1) := by decide +kernel
theorem d1_74 : decode method_3_code 74 = .ok (.bipush 8, 2) := by decide +kernel
theorem d1_76 : decode method_3_code 76 = .ok (.if_icmp .ne 7, 3) := by decide +kernel
theorem d1_79 : decode method_3_code 79 = .ok (.getstatic 34, 3) := by decide +kernel
theorem d1_82 : decode method_3_code 82 = .ok (.areturn, 1) := by decide +kernel
set_option maxRecDepth 65536 in
set_option maxHeartbeats 40000000 in
theorem rm_pk8 (l : Launch) (Z : State) (a0 : Array Value) (hw : ∀ d ∈ tables_1, d.before a0 Z = true) (ws : List Jvm.Cond) {w_n5 : Addr} {w_n10 : Addr} {w_OK : Addr} {w_n1 : Addr} {w_n2 : Addr} {w_n4 : Addr} {w_n9 : Addr} {w_n6 : Addr} {w_n0 : Addr} {w_n7 : Addr} {w_n8 : Addr} {w_n3 : Addr} {w_n11 : Addr} {k_n10 : ClassId} (W : Wd Z w_n5 w_n10 w_OK w_n1 w_n2 w_n4 w_n9 w_n6 w_n0 w_n7 w_n8 w_n3 w_n11 k_n10) (h0 : Heap) (n0 : Nat) (O0 : Old Z n0 h0) :
    MetFree l (⟨"com/example/usher/usher/wire/ErrorCodeForCodePinLaw", "pick", "(I)Lcom/example/usher/usher/wire/ErrorCode;"⟩ : MethodName) (head1 (Jvm.Cond.code (⟨"com/example/usher/usher/wire/ErrorCodeForCodePinLaw", "pick", "(I)Lcom/example/usher/usher/wire/ErrorCode;"⟩ : MethodName) method_3_code 1 (some (.object "com/example/usher/usher/wire/ErrorCode")) :: ws) ({ frames := 0, cells := 0, slots := 0, locals := 0 } : Room)) (fun a U => a = #[(.int (8 : Int32))] ∧ Z.Warmed39 U.vm ∧ U.heap = h0) (fun _ _ _ _ _ => True) (fun _ U o U' => ∃ v L, o = .returned v ∧ QP (some (.ref w_n7)) h0 n0 v U'.heap L ∧ FrameEnd U o U' L ({ frames := 0, cells := 0, slots := 0, locals := 0 } : Room).cells ({ frames := 0, cells := 0, slots := 0, locals := 0 } : Room).slots) := by
  have W' := W; obtain ⟨S_n5, E_n5, S_n10, S_OK, E_OK, S_n1, E_n1, S_n2, E_n2, S_n4, E_n4, S_n9, E_n9, S_n6, E_n6, S_n0, E_n0, S_n7, E_n7, S_n8, E_n8, S_n3, E_n3, S_n11, E_n11, F_OK_code, F_n5_code, F_n1_code, F_n2_code, F_n4_code, F_n9_code, F_n6_code, F_n0_code, F_n7_code, F_n8_code, F_n3_code, F_n11_value, V_n10⟩ := W'
  refine MetFree.of_bodySF (plainFor_of_name pn_1) hisR ?_
  intro p e s m args below meth c s₁ Bd hml0 hP hK
  obtain ⟨rfl, hZ, hh⟩ := hP
  have hx := Bd.exec
  have hby := Bd.bytes
  have hml : c.maxLocals = 1 := hml0
  have hown : s.vm.findClass "com/example/usher/usher/wire/ErrorCodeForCodePinLaw" = some m.cls := findClass_of_methodNamed Bd.named
  have hnm := (name_of_methodNamed Bd.named Bd.method).1
  have X0 : Stand p l e ({ frames := 0, cells := 0, slots := 0, locals := 0 } : Room) s m #[(.int (8 : Int32))] below meth c s₁ [] 0 0 := Stand.of_body Bd
  have e0 : s₁.heap = h0 := by rw [← hh, Bd.state]; rfl
  have N0 := Fr.nil n0
  have pre0 : ∀ t, Steps p.tables e below (s₁.setTop (mkF m 0 #[.val (.int (8 : Int32))] [])) t → Steps p.tables e below (s₁.setTop (entryFrame m #[(.int (8 : Int32))] 1)) t := fun t k => castTop (ef_1_6 m (8 : Int32)) k
  obtain ⟨T1, X1, e1, st1⟩ := getS2 X0 hx hZ hown (host := "") (Or.inl (hw _ (List.mem_of_getElem? (i := 71) rfl))) Via.refl e0 (S_n7.ext O0.2) (g := (mkF m 79 #[.val (.int (8 : Int32))] [])) rfl (hb hby d1_79)
  obtain ⟨fs, hr, hrun, hended, hW, hsame⟩ := X1.leave (v := some (.ref w_n7)) (fun h => by rw [Bd.returns] at h; cases h)
  refine ⟨_, _, pre0 _ ?_, hrun, hended, _, _, rfl, ?_, ⟨_, rfl⟩, hW, hsame.mono (by decide) (by decide)⟩
  · show Steps p.tables e below (s₁.setTop (mkF m 0 #[.val (.int (8 : Int32))] [])) _
    refine XS.iloadN X0.here hx rfl (hb hby d1_0) rfl ?_
    show Steps p.tables e below (s₁.setTop (mkF m 1 #[.val (.int (8 : Int32))] [(.int (8 : Int32))])) _
    refine XS.ifYes X0.here hx rfl (pc0 := 1) (pc' := 8) rfl (hb hby d1_1) rfl ((if0 _ _).trans (feq ((by decide) : ¬ ((8 : Int32) = (0 : Int32)))).2) (by decide) (by decide) ?_
    show Steps p.tables e below (s₁.setTop (mkF m 8 #[.val (.int (8 : Int32))] [])) _
    refine XS.iloadN X0.here hx rfl (hb hby d1_8) rfl ?_
    show Steps p.tables e below (s₁.setTop (mkF m 9 #[.val (.int (8 : Int32))] [(.int (8 : Int32))])) _
    refine XS.iconst X0.here hx rfl (hb hby d1_9) ?_
    show Steps p.tables e below (s₁.setTop (mkF m 10 #[.val (.int (8 : Int32))] [(.int (1 : Int32)), (.int (8 : Int32))])) _
    refine XS.icmpYes X0.here hx rfl (pc0 := 10) (pc' := 17) rfl (hb hby d1_10) rfl (feq ((by decide) : ¬ ((8 : Int32) = (1 : Int32)))).2 (by decide) (by decide) ?_
    show Steps p.tables e below (s₁.setTop (mkF m 17 #[.val (.int (8 : Int32))] [])) _
    refine XS.iloadN X0.here hx rfl (hb hby d1_17) rfl ?_
    show Steps p.tables e below (s₁.setTop (mkF m 18 #[.val (.int (8 : Int32))] [(.int (8 : Int32))])) _
    refine XS.iconst X0.here hx rfl (hb hby d1_18) ?_
    show Steps p.tables e below (s₁.setTop (mkF m 19 #[.val (.int (8 : Int32))] [(.int (2 : Int32)), (.int (8 : Int32))])) _
    refine XS.icmpYes X0.here hx rfl (pc0 := 19) (pc' := 26) rfl (hb hby d1_19) rfl (feq ((by decide) : ¬ ((8 : Int32) = (2 : Int32)))).2 (by decide) (by decide) ?_
    show Steps p.tables e below (s₁.setTop (mkF m 26 #[.val (.int (8 : Int32))] [])) _
    refine XS.iloadN X0.here hx rfl (hb hby d1_26) rfl ?_
    show Steps p.tables e below (s₁.setTop (mkF m 27 #[.val (.int (8 : Int32))] [(.int (8 : Int32))])) _
    refine XS.iconst X0.here hx rfl (hb hby d1_27) ?_
    show Steps p.tables e below (s₁.setTop (mkF m 28 #[.val (.int (8 : Int32))] [(.int (3 : Int32)), (.int (8 : Int32))])) _
    refine XS.icmpYes X0.here hx rfl (pc0 := 28) (pc' := 35) rfl (hb hby d1_28) rfl (feq ((by decide) : ¬ ((8 : Int32) = (3 : Int32)))).2 (by decide) (by decide) ?_
    show Steps p.tables e below (s₁.setTop (mkF m 35 #[.val (.int (8 : Int32))] [])) _
    refine XS.iloadN X0.here hx rfl (hb hby d1_35) rfl ?_
    show Steps p.tables e below (s₁.setTop (mkF m 36 #[.val (.int (8 : Int32))] [(.int (8 : Int32))])) _
    refine XS.iconst X0.here hx rfl (hb hby d1_36) ?_
    show Steps p.tables e below (s₁.setTop (mkF m 37 #[.val (.int (8 : Int32))] [(.int (4 : Int32)), (.int (8 : Int32))])) _
    refine XS.icmpYes X0.here hx rfl (pc0 := 37) (pc' := 44) rfl (hb hby d1_37) rfl (feq ((by decide) : ¬ ((8 : Int32) = (4 : Int32)))).2 (by decide) (by decide) ?_
    show Steps p.tables e below (s₁.setTop (mkF m 44 #[.val (.int (8 : Int32))] [])) _
    refine XS.iloadN X0.here hx rfl (hb hby d1_44) rfl ?_
    show Steps p.tables e below (s₁.setTop (mkF m 45 #[.val (.int (8 : Int32))] [(.int (8 : Int32))])) _
    refine XS.iconst X0.here hx rfl (hb hby d1_45) ?_
    show Steps p.tables e below (s₁.setTop (mkF m 46 #[.val (.int (8 : Int32))] [(.int (5 : Int32)), (.int (8 : Int32))])) _
    refine XS.icmpYes X0.here hx rfl (pc0 := 46) (pc' := 53) rfl (hb hby d1_46) rfl (feq ((by decide) : ¬ ((8 : Int32) = (5 : Int32)))).2 (by decide) (by decide) ?_
    show Steps p.tables e below (s₁.setTop (mkF m 53 #[.val (.int (8 : Int32))] [])) _
    refine XS.iloadN X0.here hx rfl (hb hby d1_53) rfl ?_
    show Steps p.tables e below (s₁.setTop (mkF m 54 #[.val (.int (8 : Int32))] [(.int (8 : Int32))])) _
    refine XS.bipush X0.here hx rfl (hb hby d1_54) ?_
    show Steps p.tables e below (s₁.setTop (mkF m 56 #[.val (.int (8 : Int32))] [(.int (6 : Int32)), (.int (8 : Int32))])) _
    refine XS.icmpYes X0.here hx rfl (pc0 := 56) (pc' := 63) rfl (hb hby d1_56) rfl (feq ((by decide) : ¬ ((8 : Int32) = (6 : Int32)))).2 (by decide) (by decide) ?_
    show Steps p.tables e below (s₁.setTop (mkF m 63 #[.val (.int (8 : Int32))] [])) _
    refine XS.iloadN X0.here hx rfl (hb hby d1_63) rfl ?_
    show Steps p.tables e below (s₁.setTop (mkF m 64 #[.val (.int (8 : Int32))] [(.int (8 : Int32))])) _
    refine XS.bipush X0.here hx rfl (hb hby d1_64) ?_
    show Steps p.tables e below (s₁.setTop (mkF m 66 #[.val (.int (8 : Int32))] [(.int (7 : Int32)), (.int (8 : Int32))])) _
    refine XS.icmpYes X0.here hx rfl (pc0 := 66) (pc' := 73) rfl (hb hby d1_66) rfl (feq ((by decide) : ¬ ((8 : Int32) = (7 : Int32)))).2 (by decide) (by decide) ?_
    show Steps p.tables e below (s₁.setTop (mkF m 73 #[.val (.int (8 : Int32))] [])) _
    refine XS.iloadN X0.here hx rfl (hb hby d1_73) rfl ?_
    show Steps p.tables e below (s₁.setTop (mkF m 74 #[.val (.int (8 : Int32))] [(.int (8 : Int32))])) _
    refine XS.bipush X0.here hx rfl (hb hby d1_74) ?_
    show Steps p.tables e below (s₁.setTop (mkF m 76 #[.val (.int (8 : Int32))] [(.int (8 : Int32)), (.int (8 : Int32))])) _
    refine XS.icmpNo X0.here hx rfl (hb hby d1_76) rfl (teq ((by decide) : (8 : Int32) = (8 : Int32))).2 ?_
    show Steps p.tables e below (s₁.setTop (mkF m 79 #[.val (.int (8 : Int32))] [])) _
    refine st1 _ ?_
    show Steps p.tables e below (T1.setTop (mkF m 82 #[.val (.int (8 : Int32))] [(.ref w_n7)])) _
    jvm_step X1.here [X1.here.top, hx, (hb hby d1_82), X1.method', Bd.returns, Value.isRef, FieldType.isReference]
    first | (intro acts; rw [hr _ acts rfl rfl rfl]) | rw [hr _ _ rfl rfl rfl]
    exact Steps.refl _
  · show QP (some (.ref w_n7)) h0 n0 _ T1.heap _
    rw [e1]
    exact ⟨rfl, N0, rfl⟩
set_option maxRecDepth 65536 in
set_option maxHeartbeats 40000000 in
theorem rm_fc9 (l : Launch) (Z : State) (a0 : Array Value) (hw : ∀ d ∈ tables_1, d.before a0 Z = true) (ws : List Jvm.Cond) {w_n5 : Addr} {w_n10 : Addr} {w_OK : Addr} {w_n1 : Addr} {w_n2 : Addr} {w_n4 : Addr} {w_n9 : Addr} {w_n6 : Addr} {w_n0 : Addr} {w_n7 : Addr} {w_n8 : Addr} {w_n3 : Addr} {w_n11 : Addr} {k_n10 : ClassId} (W : Wd Z w_n5 w_n10 w_OK w_n1 w_n2 w_n4 w_n9 w_n6 w_n0 w_n7 w_n8 w_n3 w_n11 k_n10) (h0 : Heap) (n0 : Nat) (O0 : Old Z n0 h0) :
    MetFree l (⟨"com/example/usher/usher/wire/ErrorCode", "forCode", "(I)Ljava/util/Optional;"⟩ : MethodName) (head1 (Jvm.Cond.code (⟨"com/example/usher/usher/wire/ErrorCode", "forCode", "(I)Ljava/util/Optional;"⟩ : MethodName) prog_14_method_5_code 5 (some (.object "java/util/Optional")) :: ws) ({ frames := 3, cells := 1, slots := 1, locals := 38 } : Room)) (fun a U => a = #[(.int (-111 : Int32))] ∧ Z.Warmed39 U.vm ∧ U.heap = h0) (fun _ _ _ _ _ => True) (fun _ U o U' => ∃ v L, o = .returned v ∧ QW (fun v h => ∃ b23_b1 : Addr, v = some (.ref b23_b1) ∧ Keep h0 h [] ∧ n0 ≤ b23_b1 ∧ h0.size ≤ b23_b1 ∧ Exa Z h b23_b1 "java/util/Optional" ∧ Fld Z h b23_b1 "java/util/Optional" "value" "Ljava/lang/Object;" (.ref w_n8)) n0 v U'.heap L ∧ FrameEnd U o U' L ({ frames := 3, cells := 1, slots := 1, locals := 38 } : Room).cells ({ frames := 3, cells := 1, slots := 1, locals := 38 } : Room).slots) := by
  have W' := W; obtain ⟨S_n5, E_n5, S_n10, S_OK, E_OK, S_n1, E_n1, S_n2, E_n2, S_n4, E_n4, S_n9, E_n9, S_n6, E_n6, S_n0, E_n0, S_n7, E_n7, S_n8, E_n8, S_n3, E_n3, S_n11, E_n11, F_OK_code, F_n5_code, F_n1_code, F_n2_code, F_n4_code, F_n9_code, F_n6_code, F_n0_code, F_n7_code, F_n8_code, F_n3_code, F_n11_value, V_n10⟩ := W'
  refine MetFree.of_bodySF (plainFor_of_name pn_2) hisR ?_
  intro p e s m args below meth c s₁ Bd hml0 hP hK
  obtain ⟨rfl, hZ, hh⟩ := hP
  have hx := Bd.exec
  have hby := Bd.bytes
  have hml : c.maxLocals = 5 := hml0
  have hown : s.vm.findClass "com/example/usher/usher/wire/ErrorCode" = some m.cls := findClass_of_methodNamed Bd.named
  have hnm := (name_of_methodNamed Bd.named Bd.method).1
  have X0 : Stand p l e ({ frames := 3, cells := 1, slots := 1, locals := 38 } : Room) s m #[(.int (-111 : Int32))] below meth c s₁ [] 0 0 := Stand.of_body Bd
  have e0 : s₁.heap = h0 := by rw [← hh, Bd.state]; rfl
  have N0 := Fr.nil n0
  have pre0 : ∀ t, Steps p.tables e below (s₁.setTop (mkF m 0 #[.val (.int (-111 : Int32)), .unset, .unset, .unset, .unset] [])) t → Steps p.tables e below (s₁.setTop (entryFrame m #[(.int (-111 : Int32))] 5)) t := fun t k => castTop (ef_2_4 m (-111 : Int32)) k
  obtain ⟨T1, X1, e1, st1⟩ := getS2 X0 hx hZ hown (host := "") (Or.inl (hw _ (List.mem_of_getElem? (i := 11) rfl))) Via.refl e0 (S_n10.ext O0.2) (g := (mkF m 0 #[.val (.int (-111 : Int32)), .unset, .unset, .unset, .unset] [])) rfl (hb hby d2_0)
  obtain ⟨cl2, Ar2, qk2, Sz2, Nz2, Hs2, Gs2⟩ := id (V_n10.ext O0.2)
  obtain ⟨cl3, Ar3, qk3, Sz3, Nz3, Hs3, Gs3⟩ := id (V_n10.ext O0.2)
  have hin3 : ¬ ((0 : Int32) < 0 ∨ cl3.slots.size ≤ ((0 : Int32)).toNatClampNeg) := inb_of Sz3 ⟨by decide, by decide⟩
  have hat3 : cl3.slots[((0 : Int32)).toNatClampNeg]? = some (.ref w_OK) := Has.at Hs3 hin3 rfl
  obtain ⟨T4, X4, e4, st4⟩ := getF X1 hx hZ hown (host := "") (Or.inl (hw _ (List.mem_of_getElem? (i := 14) rfl))) Via.refl e1 (F_OK_code.ext O0.2) (g := (mkF m 21 #[.val (.int (-111 : Int32)), .val (.ref w_n10), .val (.int (11 : Int32)), .val (.int (0 : Int32)), .val (.ref w_OK)] [(.ref w_OK)])) rfl rfl (hb hby d2_21)
  obtain ⟨cl5, Ar5, qk5, Sz5, Nz5, Hs5, Gs5⟩ := id (V_n10.ext O0.2)
  have hin5 : ¬ ((1 : Int32) < 0 ∨ cl5.slots.size ≤ ((1 : Int32)).toNatClampNeg) := inb_of Sz5 ⟨by decide, by decide⟩
  have hat5 : cl5.slots[((1 : Int32)).toNatClampNeg]? = some (.ref w_n1) := Has.at Hs5 hin5 rfl
  obtain ⟨T6, X6, e6, st6⟩ := getF X4 hx hZ hown (host := "") (Or.inl (hw _ (List.mem_of_getElem? (i := 14) rfl))) Via.refl e4 (F_n1_code.ext O0.2) (g := (mkF m 21 #[.val (.int (-111 : Int32)), .val (.ref w_n10), .val (.int (11 : Int32)), .val (.int (1 : Int32)), .val (.ref w_n1)] [(.ref w_n1)])) rfl rfl (hb hby d2_21)
  obtain ⟨cl7, Ar7, qk7, Sz7, Nz7, Hs7, Gs7⟩ := id (V_n10.ext O0.2)
  have hin7 : ¬ ((2 : Int32) < 0 ∨ cl7.slots.size ≤ ((2 : Int32)).toNatClampNeg) := inb_of Sz7 ⟨by decide, by decide⟩
  have hat7 : cl7.slots[((2 : Int32)).toNatClampNeg]? = some (.ref w_n2) := Has.at Hs7 hin7 rfl
  obtain ⟨T8, X8, e8, st8⟩ := getF X6 hx hZ hown (host := "") (Or.inl (hw _ (List.mem_of_getElem? (i := 14) rfl))) Via.refl e6 (F_n2_code.ext O0.2) (g := (mkF m 21 #[.val (.int (-111 : Int32)), .val (.ref w_n10), .val (.int (11 : Int32)), .val (.int (2 : Int32)), .val (.ref w_n2)] [(.ref w_n2)])) rfl rfl (hb hby d2_21)
  obtain ⟨cl9, Ar9, qk9, Sz9, Nz9, Hs9, Gs9⟩ := id (V_n10.ext O0.2)
  have hin9 : ¬ ((3 : Int32) < 0 ∨ cl9.slots.size ≤ ((3 : Int32)).toNatClampNeg) := inb_of Sz9 ⟨by decide, by decide⟩
  have hat9 : cl9.slots[((3 : Int32)).toNatClampNeg]? = some (.ref w_n5) := Has.at Hs9 hin9 rfl
  obtain ⟨T10, X10, e10, st10⟩ := getF X8 hx hZ hown (host := "") (Or.inl (hw _ (List.mem_of_getElem? (i := 14) rfl))) Via.refl e8 (F_n5_code.ext O0.2) (g := (mkF m 21 #[.val (.int (-111 : Int32)), .val (.ref w_n10), .val (.int (11 : Int32)), .val (.int (3 : Int32)), .val (.ref w_n5)] [(.ref w_n5)])) rfl rfl (hb hby d2_21)
  obtain ⟨cl11, Ar11, qk11, Sz11, Nz11, Hs11, Gs11⟩ := id (V_n10.ext O0.2)
  have hin11 : ¬ ((4 : Int32) < 0 ∨ cl11.slots.size ≤ ((4 : Int32)).toNatClampNeg) := inb_of Sz11 ⟨by decide, by decide⟩
  have hat11 : cl11.slots[((4 : Int32)).toNatClampNeg]? = some (.ref w_n4) := Has.at Hs11 hin11 rfl
  obtain ⟨T12, X12, e12, st12⟩ := getF X10 hx hZ hown (host := "") (Or.inl (hw _ (List.mem_of_getElem? (i := 14) rfl))) Via.refl e10 (F_n4_code.ext O0.2) (g := (mkF m 21 #[.val (.int (-111 : Int32)), .val (.ref w_n10), .val (.int (11 : Int32)), .val (.int (4 : Int32)), .val (.ref w_n4)] [(.ref w_n4)])) rfl rfl (hb hby d2_21)
  obtain ⟨cl13, Ar13, qk13, Sz13, Nz13, Hs13, Gs13⟩ := id (V_n10.ext O0.2)
  have hin13 : ¬ ((5 : Int32) < 0 ∨ cl13.slots.size ≤ ((5 : Int32)).toNatClampNeg) := inb_of Sz13 ⟨by decide, by decide⟩
  have hat13 : cl13.slots[((5 : Int32)).toNatClampNeg]? = some (.ref w_n9) := Has.at Hs13 hin13 rfl
  obtain ⟨T14, X14, e14, st14⟩ := getF X12 hx hZ hown (host := "") (Or.inl (hw _ (List.mem_of_getElem? (i := 14) rfl))) Via.refl e12 (F_n9_code.ext O0.2) (g := (mkF m 21 #[.val (.int (-111 : Int32)), .val (.ref w_n10), .val (.int (11 : Int32)), .val (.int (5 : Int32)), .val (.ref w_n9)] [(.ref w_n9)])) rfl rfl (hb hby d2_21)
  obtain ⟨cl15, Ar15, qk15, Sz15, Nz15, Hs15, Gs15⟩ := id (V_n10.ext O0.2)
  have hin15 : ¬ ((6 : Int32) < 0 ∨ cl15.slots.size ≤ ((6 : Int32)).toNatClampNeg) := inb_of Sz15 ⟨by decide, by decide⟩
  have hat15 : cl15.slots[((6 : Int32)).toNatClampNeg]? = some (.ref w_n6) := Has.at Hs15 hin15 rfl
  obtain ⟨T16, X16, e16, st16⟩ := getF X14 hx hZ hown (host := "") (Or.inl (hw _ (List.mem_of_getElem? (i := 14) rfl))) Via.refl e14 (F_n6_code.ext O0.2) (g := (mkF m 21 #[.val (.int (-111 : Int32)), .val (.ref w_n10), .val (.int (11 : Int32)), .val (.int (6 : Int32)), .val (.ref w_n6)] [(.ref w_n6)])) rfl rfl (hb hby d2_21)
  obtain ⟨cl17, Ar17, qk17, Sz17, Nz17, Hs17, Gs17⟩ := id (V_n10.ext O0.2)
  have hin17 : ¬ ((7 : Int32) < 0 ∨ cl17.slots.size ≤ ((7 : Int32)).toNatClampNeg) := inb_of Sz17 ⟨by decide, by decide⟩
  have hat17 : cl17.slots[((7 : Int32)).toNatClampNeg]? = some (.ref w_n0) := Has.at Hs17 hin17 rfl
  obtain ⟨T18, X18, e18, st18⟩ := getF X16 hx hZ hown (host := "") (Or.inl (hw _ (List.mem_of_getElem? (i := 14) rfl))) Via.refl e16 (F_n0_code.ext O0.2) (g := (mkF m 21 #[.val (.int (-111 : Int32)), .val (.ref w_n10), .val (.int (11 : Int32)), .val (.int (7 : Int32)), .val (.ref w_n0)] [(.ref w_n0)])) rfl rfl (hb hby d2_21)
  obtain ⟨cl19, Ar19, qk19, Sz19, Nz19, Hs19, Gs19⟩ := id (V_n10.ext O0.2)
  have hin19 : ¬ ((8 : Int32) < 0 ∨ cl19.slots.size ≤ ((8 : Int32)).toNatClampNeg) := inb_of Sz19 ⟨by decide, by decide⟩
  have hat19 : cl19.slots[((8 : Int32)).toNatClampNeg]? = some (.ref w_n7) := Has.at Hs19 hin19 rfl
  obtain ⟨T20, X20, e20, st20⟩ := getF X18 hx hZ hown (host := "") (Or.inl (hw _ (List.mem_of_getElem? (i := 14) rfl))) Via.refl e18 (F_n7_code.ext O0.2) (g := (mkF m 21 #[.val (.int (-111 : Int32)), .val (.ref w_n10), .val (.int (11 : Int32)), .val (.int (8 : Int32)), .val (.ref w_n7)] [(.ref w_n7)])) rfl rfl (hb hby d2_21)
  obtain ⟨cl21, Ar21, qk21, Sz21, Nz21, Hs21, Gs21⟩ := id (V_n10.ext O0.2)
  have hin21 : ¬ ((9 : Int32) < 0 ∨ cl21.slots.size ≤ ((9 : Int32)).toNatClampNeg) := inb_of Sz21 ⟨by decide, by decide⟩
  have hat21 : cl21.slots[((9 : Int32)).toNatClampNeg]? = some (.ref w_n8) := Has.at Hs21 hin21 rfl
  obtain ⟨T22, X22, e22, st22⟩ := getF X20 hx hZ hown (host := "") (Or.inl (hw _ (List.mem_of_getElem? (i := 14) rfl))) Via.refl e20 (F_n8_code.ext O0.2) (g := (mkF m 21 #[.val (.int (-111 : Int32)), .val (.ref w_n10), .val (.int (11 : Int32)), .val (.int (9 : Int32)), .val (.ref w_n8)] [(.ref w_n8)])) rfl rfl (hb hby d2_21)
  obtain ⟨_, _, ⟨T23, L23, k23, n23⟩, -, X23, ⟨Lc23, hQ23, l23, y23, z23⟩, st23⟩ := Jvm.LawKit.callS X22 hx (y := (⟨"java/util/Optional", "of", "(Ljava/lang/Object;)Ljava/util/Optional;"⟩ : MethodName)) hown (mvT hZ (hw _ (List.mem_of_getElem? (i := 16) rfl))) (mvT hZ (hw _ (List.mem_of_getElem? (i := 17) rfl))) (mvT hZ (hw _ (List.mem_of_getElem? (i := 18) rfl))) (mvT hZ (hw _ (List.mem_of_getElem? (i := 19) rfl))) (by decide) (backOf (W := 0) (rm_of l Z a0 hw [] W w_n8 h0 n0 O0 ) hZ (hw _ (List.mem_of_getElem? (i := 19) rfl)) (hw _ (List.mem_of_getElem? (i := 18) rfl)) (by decide) (by decide)) (g := (mkF m 30 #[.val (.int (-111 : Int32)), .val (.ref w_n10), .val (.int (11 : Int32)), .val (.int (9 : Int32)), .val (.ref w_n8)] [(.ref w_n8)])) rfl (by rw [hml]; rfl) (argsL := [(.ref w_n8)]) (rest := []) (lenOf pd_2 rfl) rfl (by show 2 * 0 + _ ≤ _; exact Nat.le_of_eq rfl) (hb hby d2_30) (fun _ _ => ⟨rfl, e22, (by decide : 0 + 1 ≤ _), (by decide : 0 + 1 ≤ _)⟩)
  dsimp only [Pt.U, Pt.locs, Pt.cells, Pt.slots] at X23 l23 y23 z23 st23 hQ23
  subst l23 y23 z23
  obtain ⟨N23q, hP23⟩ := hQ23
  have N23 := Fr.app N0 N23q
  obtain ⟨b23_b1, rfl, Kp23, g_b23_b1, si_b23_b1, fp23_0, fp23_1⟩ := hP23
  have O23 := O0.keep Kp23 all0
  have sz_b23_b1 : h0.size ≤ b23_b1 := Nat.le_trans ((Keep.refl h0 [])).1 si_b23_b1
  have K23 : Keep h0 T23.heap [] := (Keep.refl h0 []).trans Kp23 all0
  obtain ⟨fs, hr, hrun, hended, hW, hsame⟩ := X23.leave (v := some (.ref b23_b1)) (fun h => by rw [Bd.returns] at h; cases h)
  refine ⟨_, _, pre0 _ ?_, hrun, hended, _, _, rfl, ?_, ⟨_, rfl⟩, hW, hsame.mono (by decide) (by decide)⟩
  · show Steps p.tables e below (s₁.setTop (mkF m 0 #[.val (.int (-111 : Int32)), .unset, .unset, .unset, .unset] [])) _
    refine st1 _ ?_
    show Steps p.tables e below (T1.setTop (mkF m 3 #[.val (.int (-111 : Int32)), .unset, .unset, .unset, .unset] [(.ref w_n10)])) _
    refine XS.astoreN X1.here hx rfl (hb hby d2_3) rfl rfl (l' := #[.val (.int (-111 : Int32)), .val (.ref w_n10), .unset, .unset, .unset]) rfl ?_
    show Steps p.tables e below (T1.setTop (mkF m 4 #[.val (.int (-111 : Int32)), .val (.ref w_n10), .unset, .unset, .unset] [])) _
    refine XS.aloadN X1.here hx rfl (hb hby d2_4) rfl rfl ?_
    show Steps p.tables e below (T1.setTop (mkF m 5 #[.val (.int (-111 : Int32)), .val (.ref w_n10), .unset, .unset, .unset] [(.ref w_n10)])) _
    refine X1.arraylength hx (by rw [e1]; exact Ar2.1) (State.isArrayOf_alike hZ.alike Ar2.2.1) (g := (mkF m 5 #[.val (.int (-111 : Int32)), .val (.ref w_n10), .unset, .unset, .unset] [(.ref w_n10)])) rfl rfl (hb hby d2_5) _ ?_
    rw [len_of Sz2 Nz2]
    show Steps p.tables e below (T1.setTop (mkF m 6 #[.val (.int (-111 : Int32)), .val (.ref w_n10), .unset, .unset, .unset] [(.int (11 : Int32))])) _
    refine XS.istoreN X1.here hx rfl (hb hby d2_6) rfl (l' := #[.val (.int (-111 : Int32)), .val (.ref w_n10), .val (.int (11 : Int32)), .unset, .unset]) rfl ?_
    show Steps p.tables e below (T1.setTop (mkF m 7 #[.val (.int (-111 : Int32)), .val (.ref w_n10), .val (.int (11 : Int32)), .unset, .unset] [])) _
    refine XS.iconst X1.here hx rfl (hb hby d2_7) ?_
    show Steps p.tables e below (T1.setTop (mkF m 8 #[.val (.int (-111 : Int32)), .val (.ref w_n10), .val (.int (11 : Int32)), .unset, .unset] [(.int (0 : Int32))])) _
    refine XS.istoreN X1.here hx rfl (hb hby d2_8) rfl (l' := #[.val (.int (-111 : Int32)), .val (.ref w_n10), .val (.int (11 : Int32)), .val (.int (0 : Int32)), .unset]) rfl ?_
    show Steps p.tables e below (T1.setTop (mkF m 9 #[.val (.int (-111 : Int32)), .val (.ref w_n10), .val (.int (11 : Int32)), .val (.int (0 : Int32)), .unset] [])) _
    refine XS.iloadN X1.here hx rfl (hb hby d2_9) rfl ?_
    show Steps p.tables e below (T1.setTop (mkF m 10 #[.val (.int (-111 : Int32)), .val (.ref w_n10), .val (.int (11 : Int32)), .val (.int (0 : Int32)), .unset] [(.int (0 : Int32))])) _
    refine XS.iloadN X1.here hx rfl (hb hby d2_10) rfl ?_
    show Steps p.tables e below (T1.setTop (mkF m 11 #[.val (.int (-111 : Int32)), .val (.ref w_n10), .val (.int (11 : Int32)), .val (.int (0 : Int32)), .unset] [(.int (11 : Int32)), (.int (0 : Int32))])) _
    refine XS.icmpNo X1.here hx rfl (hb hby d2_11) rfl (tlt ((by decide) : (0 : Int32) < (11 : Int32))).2.1 ?_
    show Steps p.tables e below (T1.setTop (mkF m 14 #[.val (.int (-111 : Int32)), .val (.ref w_n10), .val (.int (11 : Int32)), .val (.int (0 : Int32)), .unset] [])) _
    refine XS.aloadN X1.here hx rfl (hb hby d2_14) rfl rfl ?_
    show Steps p.tables e below (T1.setTop (mkF m 15 #[.val (.int (-111 : Int32)), .val (.ref w_n10), .val (.int (11 : Int32)), .val (.int (0 : Int32)), .unset] [(.ref w_n10)])) _
    refine XS.iloadN X1.here hx rfl (hb hby d2_15) rfl ?_
    show Steps p.tables e below (T1.setTop (mkF m 16 #[.val (.int (-111 : Int32)), .val (.ref w_n10), .val (.int (11 : Int32)), .val (.int (0 : Int32)), .unset] [(.int (0 : Int32)), (.ref w_n10)])) _
    refine X1.aaload hx (j := (0 : Int32)) (v := (.ref w_OK)) (by rw [e1]; exact Ar3.1) (State.isArrayOf_alike hZ.alike Ar3.2.1) rfl Ar3.2.2 hin3 hat3 (g := (mkF m 16 #[.val (.int (-111 : Int32)), .val (.ref w_n10), .val (.int (11 : Int32)), .val (.int (0 : Int32)), .unset] [(.int (0 : Int32)), (.ref w_n10)])) rfl rfl (hb hby d2_16) _ ?_
    show Steps p.tables e below (T1.setTop (mkF m 17 #[.val (.int (-111 : Int32)), .val (.ref w_n10), .val (.int (11 : Int32)), .val (.int (0 : Int32)), .unset] [(.ref w_OK)])) _
    refine XS.astore X1.here hx rfl (hb hby d2_17) rfl rfl (l' := #[.val (.int (-111 : Int32)), .val (.ref w_n10), .val (.int (11 : Int32)), .val (.int (0 : Int32)), .val (.ref w_OK)]) rfl ?_
    show Steps p.tables e below (T1.setTop (mkF m 19 #[.val (.int (-111 : Int32)), .val (.ref w_n10), .val (.int (11 : Int32)), .val (.int (0 : Int32)), .val (.ref w_OK)] [])) _
    refine XS.aload X1.here hx rfl (hb hby d2_19) rfl rfl ?_
    show Steps p.tables e below (T1.setTop (mkF m 21 #[.val (.int (-111 : Int32)), .val (.ref w_n10), .val (.int (11 : Int32)), .val (.int (0 : Int32)), .val (.ref w_OK)] [(.ref w_OK)])) _
    refine st4 _ ?_
    show Steps p.tables e below (T4.setTop (mkF m 24 #[.val (.int (-111 : Int32)), .val (.ref w_n10), .val (.int (11 : Int32)), .val (.int (0 : Int32)), .val (.ref w_OK)] [(.int (0 : Int32))])) _
    refine XS.iloadN X4.here hx rfl (hb hby d2_24) rfl ?_
    show Steps p.tables e below (T4.setTop (mkF m 25 #[.val (.int (-111 : Int32)), .val (.ref w_n10), .val (.int (11 : Int32)), .val (.int (0 : Int32)), .val (.ref w_OK)] [(.int (-111 : Int32)), (.int (0 : Int32))])) _
    refine XS.icmpYes X4.here hx rfl (pc0 := 25) (pc' := 34) rfl (hb hby d2_25) rfl (feq ((by decide) : ¬ ((0 : Int32) = (-111 : Int32)))).2 (by decide) (by decide) ?_
    show Steps p.tables e below (T4.setTop (mkF m 34 #[.val (.int (-111 : Int32)), .val (.ref w_n10), .val (.int (11 : Int32)), .val (.int (0 : Int32)), .val (.ref w_OK)] [])) _
    refine XS.iinc X4.here hx rfl (hb hby d2_34) rfl (l' := #[.val (.int (-111 : Int32)), .val (.ref w_n10), .val (.int (11 : Int32)), .val (.int ((0 : Int32) + (1 : Int32))), .val (.ref w_OK)]) rfl ?_
    show Steps p.tables e below (T4.setTop (mkF m 37 #[.val (.int (-111 : Int32)), .val (.ref w_n10), .val (.int (11 : Int32)), .val (.int ((0 : Int32) + (1 : Int32))), .val (.ref w_OK)] [])) _
    rw [show ((0 : Int32) + (1 : Int32)) = (1 : Int32) from by decide]
    show Steps p.tables e below (T4.setTop (mkF m 37 #[.val (.int (-111 : Int32)), .val (.ref w_n10), .val (.int (11 : Int32)), .val (.int (1 : Int32)), .val (.ref w_OK)] [])) _
    refine XS.goto X4.here hx rfl (pc0 := 37) (pc' := 9) rfl (hb hby d2_37) (by decide) (by decide) ?_
    show Steps p.tables e below (T4.setTop (mkF m 9 #[.val (.int (-111 : Int32)), .val (.ref w_n10), .val (.int (11 : Int32)), .val (.int (1 : Int32)), .val (.ref w_OK)] [])) _
    refine XS.iloadN X4.here hx rfl (hb hby d2_9) rfl ?_
    show Steps p.tables e below (T4.setTop (mkF m 10 #[.val (.int (-111 : Int32)), .val (.ref w_n10), .val (.int (11 : Int32)), .val (.int (1 : Int32)), .val (.ref w_OK)] [(.int (1 : Int32))])) _
    refine XS.iloadN X4.here hx rfl (hb hby d2_10) rfl ?_
    show Steps p.tables e below (T4.setTop (mkF m 11 #[.val (.int (-111 : Int32)), .val (.ref w_n10), .val (.int (11 : Int32)), .val (.int (1 : Int32)), .val (.ref w_OK)] [(.int (11 : Int32)), (.int (1 : Int32))])) _
    refine XS.icmpNo X4.here hx rfl (hb hby d2_11) rfl (tlt ((by decide) : (1 : Int32) < (11 : Int32))).2.1 ?_
    show Steps p.tables e below (T4.setTop (mkF m 14 #[.val (.int (-111 : Int32)), .val (.ref w_n10), .val (.int (11 : Int32)), .val (.int (1 : Int32)), .val (.ref w_OK)] [])) _
    refine XS.aloadN X4.here hx rfl (hb hby d2_14) rfl rfl ?_
    show Steps p.tables e below (T4.setTop (mkF m 15 #[.val (.int (-111 : Int32)), .val (.ref w_n10), .val (.int (11 : Int32)), .val (.int (1 : Int32)), .val (.ref w_OK)] [(.ref w_n10)])) _
    refine XS.iloadN X4.here hx rfl (hb hby d2_15) rfl ?_
    show Steps p.tables e below (T4.setTop (mkF m 16 #[.val (.int (-111 : Int32)), .val (.ref w_n10), .val (.int (11 : Int32)), .val (.int (1 : Int32)), .val (.ref w_OK)] [(.int (1 : Int32)), (.ref w_n10)])) _
    refine X4.aaload hx (j := (1 : Int32)) (v := (.ref w_n1)) (by rw [e4]; exact Ar5.1) (State.isArrayOf_alike hZ.alike Ar5.2.1) rfl Ar5.2.2 hin5 hat5 (g := (mkF m 16 #[.val (.int (-111 : Int32)), .val (.ref w_n10), .val (.int (11 : Int32)), .val (.int (1 : Int32)), .val (.ref w_OK)] [(.int (1 : Int32)), (.ref w_n10)])) rfl rfl (hb hby d2_16) _ ?_
    show Steps p.tables e below (T4.setTop (mkF m 17 #[.val (.int (-111 : Int32)), .val (.ref w_n10), .val (.int (11 : Int32)), .val (.int (1 : Int32)), .val (.ref w_OK)] [(.ref w_n1)])) _
    refine XS.astore X4.here hx rfl (hb hby d2_17) rfl rfl (l' := #[.val (.int (-111 : Int32)), .val (.ref w_n10), .val (.int (11 : Int32)), .val (.int (1 : Int32)), .val (.ref w_n1)]) rfl ?_
    show Steps p.tables e below (T4.setTop (mkF m 19 #[.val (.int (-111 : Int32)), .val (.ref w_n10), .val (.int (11 : Int32)), .val (.int (1 : Int32)), .val (.ref w_n1)] [])) _
    refine XS.aload X4.here hx rfl (hb hby d2_19) rfl rfl ?_
    show Steps p.tables e below (T4.setTop (mkF m 21 #[.val (.int (-111 : Int32)), .val (.ref w_n10), .val (.int (11 : Int32)), .val (.int (1 : Int32)), .val (.ref w_n1)] [(.ref w_n1)])) _
    refine st6 _ ?_
    show Steps p.tables e below (T6.setTop (mkF m 24 #[.val (.int (-111 : Int32)), .val (.ref w_n10), .val (.int (11 : Int32)), .val (.int (1 : Int32)), .val (.ref w_n1)] [(.int (-2 : Int32))])) _
    refine XS.iloadN X6.here hx rfl (hb hby d2_24) rfl ?_
    show Steps p.tables e below (T6.setTop (mkF m 25 #[.val (.int (-111 : Int32)), .val (.ref w_n10), .val (.int (11 : Int32)), .val (.int (1 : Int32)), .val (.ref w_n1)] [(.int (-111 : Int32)), (.int (-2 : Int32))])) _
    refine XS.icmpYes X6.here hx rfl (pc0 := 25) (pc' := 34) rfl (hb hby d2_25) rfl (feq ((by decide) : ¬ ((-2 : Int32) = (-111 : Int32)))).2 (by decide) (by decide) ?_
    show Steps p.tables e below (T6.setTop (mkF m 34 #[.val (.int (-111 : Int32)), .val (.ref w_n10), .val (.int (11 : Int32)), .val (.int (1 : Int32)), .val (.ref w_n1)] [])) _
    refine XS.iinc X6.here hx rfl (hb hby d2_34) rfl (l' := #[.val (.int (-111 : Int32)), .val (.ref w_n10), .val (.int (11 : Int32)), .val (.int ((1 : Int32) + (1 : Int32))), .val (.ref w_n1)]) rfl ?_
    show Steps p.tables e below (T6.setTop (mkF m 37 #[.val (.int (-111 : Int32)), .val (.ref w_n10), .val (.int (11 : Int32)), .val (.int ((1 : Int32) + (1 : Int32))), .val (.ref w_n1)] [])) _
    rw [show ((1 : Int32) + (1 : Int32)) = (2 : Int32) from by decide]
    show Steps p.tables e below (T6.setTop (mkF m 37 #[.val (.int (-111 : Int32)), .val (.ref w_n10), .val (.int (11 : Int32)), .val (.int (2 : Int32)), .val (.ref w_n1)] [])) _
    refine XS.goto X6.here hx rfl (pc0 := 37) (pc' := 9) rfl (hb hby d2_37) (by decide) (by decide) ?_
    show Steps p.tables e below (T6.setTop (mkF m 9 #[.val (.int (-111 : Int32)), .val (.ref w_n10), .val (.int (11 : Int32)), .val (.int (2 : Int32)), .val (.ref w_n1)] [])) _
    refine XS.iloadN X6.here hx rfl (hb hby d2_9) rfl ?_
    show Steps p.tables e below (T6.setTop (mkF m 10 #[.val (.int (-111 : Int32)), .val (.ref w_n10), .val (.int (11 : Int32)), .val (.int (2 : Int32)), .val (.ref w_n1)] [(.int (2 : Int32))])) _
    refine XS.iloadN X6.here hx rfl (hb hby d2_10) rfl ?_
    show Steps p.tables e below (T6.setTop (mkF m 11 #[.val (.int (-111 : Int32)), .val (.ref w_n10), .val (.int (11 : Int32)), .val (.int (2 : Int32)), .val (.ref w_n1)] [(.int (11 : Int32)), (.int (2 : Int32))])) _
    refine XS.icmpNo X6.here hx rfl (hb hby d2_11) rfl (tlt ((by decide) : (2 : Int32) < (11 : Int32))).2.1 ?_
    show Steps p.tables e below (T6.setTop (mkF m 14 #[.val (.int (-111 : Int32)), .val (.ref w_n10), .val (.int (11 : Int32)), .val (.int (2 : Int32)), .val (.ref w_n1)] [])) _
    refine XS.aloadN X6.here hx rfl (hb hby d2_14) rfl rfl ?_
    show Steps p.tables e below (T6.setTop (mkF m 15 #[.val (.int (-111 : Int32)), .val (.ref w_n10), .val (.int (11 : Int32)), .val (.int (2 : Int32)), .val (.ref w_n1)] [(.ref w_n10)])) _
    refine XS.iloadN X6.here hx rfl (hb hby d2_15) rfl ?_
    show Steps p.tables e below (T6.setTop (mkF m 16 #[.val (.int (-111 : Int32)), .val (.ref w_n10), .val (.int (11 : Int32)), .val (.int (2 : Int32)), .val (.ref w_n1)] [(.int (2 : Int32)), (.ref w_n10)])) _
    refine X6.aaload hx (j := (2 : Int32)) (v := (.ref w_n2)) (by rw [e6]; exact Ar7.1) (State.isArrayOf_alike hZ.alike Ar7.2.1) rfl Ar7.2.2 hin7 hat7 (g := (mkF m 16 #[.val (.int (-111 : Int32)), .val (.ref w_n10), .val (.int (11 : Int32)), .val (.int (2 : Int32)), .val (.ref w_n1)] [(.int (2 : Int32)), (.ref w_n10)])) rfl rfl (hb hby d2_16) _ ?_
    show Steps p.tables e below (T6.setTop (mkF m 17 #[.val (.int (-111 : Int32)), .val (.ref w_n10), .val (.int (11 : Int32)), .val (.int (2 : Int32)), .val (.ref w_n1)] [(.ref w_n2)])) _
    refine XS.astore X6.here hx rfl (hb hby d2_17) rfl rfl (l' := #[.val (.int (-111 : Int32)), .val (.ref w_n10), .val (.int (11 : Int32)), .val (.int (2 : Int32)), .val (.ref w_n2)]) rfl ?_
    show Steps p.tables e below (T6.setTop (mkF m 19 #[.val (.int (-111 : Int32)), .val (.ref w_n10), .val (.int (11 : Int32)), .val (.int (2 : Int32)), .val (.ref w_n2)] [])) _
    refine XS.aload X6.here hx rfl (hb hby d2_19) rfl rfl ?_
    show Steps p.tables e below (T6.setTop (mkF m 21 #[.val (.int (-111 : Int32)), .val (.ref w_n10), .val (.int (11 : Int32)), .val (.int (2 : Int32)), .val (.ref w_n2)] [(.ref w_n2)])) _
    refine st8 _ ?_
    show Steps p.tables e below (T8.setTop (mkF m 24 #[.val (.int (-111 : Int32)), .val (.ref w_n10), .val (.int (11 : Int32)), .val (.int (2 : Int32)), .val (.ref w_n2)] [(.int (-5 : Int32))])) _
    refine XS.iloadN X8.here hx rfl (hb hby d2_24) rfl ?_
    show Steps p.tables e below (T8.setTop (mkF m 25 #[.val (.int (-111 : Int32)), .val (.ref w_n10), .val (.int (11 : Int32)), .val (.int (2 : Int32)), .val (.ref w_n2)] [(.int (-111 : Int32)), (.int (-5 : Int32))])) _
    refine XS.icmpYes X8.here hx rfl (pc0 := 25) (pc' := 34) rfl (hb hby d2_25) rfl (feq ((by decide) : ¬ ((-5 : Int32) = (-111 : Int32)))).2 (by decide) (by decide) ?_
    show Steps p.tables e below (T8.setTop (mkF m 34 #[.val (.int (-111 : Int32)), .val (.ref w_n10), .val (.int (11 : Int32)), .val (.int (2 : Int32)), .val (.ref w_n2)] [])) _
    refine XS.iinc X8.here hx rfl (hb hby d2_34) rfl (l' := #[.val (.int (-111 : Int32)), .val (.ref w_n10), .val (.int (11 : Int32)), .val (.int ((2 : Int32) + (1 : Int32))), .val (.ref w_n2)]) rfl ?_
    show Steps p.tables e below (T8.setTop (mkF m 37 #[.val (.int (-111 : Int32)), .val (.ref w_n10), .val (.int (11 : Int32)), .val (.int ((2 : Int32) + (1 : Int32))), .val (.ref w_n2)] [])) _
    rw [show ((2 : Int32) + (1 : Int32)) = (3 : Int32) from by decide]
    show Steps p.tables e below (T8.setTop (mkF m 37 #[.val (.int (-111 : Int32)), .val (.ref w_n10), .val (.int (11 : Int32)), .val (.int (3 : Int32)), .val (.ref w_n2)] [])) _
    refine XS.goto X8.here hx rfl (pc0 := 37) (pc' := 9) rfl (hb hby d2_37) (by decide) (by decide) ?_
    show Steps p.tables e below (T8.setTop (mkF m 9 #[.val (.int (-111 : Int32)), .val (.ref w_n10), .val (.int (11 : Int32)), .val (.int (3 : Int32)), .val (.ref w_n2)] [])) _
    refine XS.iloadN X8.here hx rfl (hb hby d2_9) rfl ?_
    show Steps p.tables e below (T8.setTop (mkF m 10 #[.val (.int (-111 : Int32)), .val (.ref w_n10), .val (.int (11 : Int32)), .val (.int (3 : Int32)), .val (.ref w_n2)] [(.int (3 : Int32))])) _
    refine XS.iloadN X8.here hx rfl (hb hby d2_10) rfl ?_
    show Steps p.tables e below (T8.setTop (mkF m 11 #[.val (.int (-111 : Int32)), .val (.ref w_n10), .val (.int (11 : Int32)), .val (.int (3 : Int32)), .val (.ref w_n2)] [(.int (11 : Int32)), (.int (3 : Int32))])) _
    refine XS.icmpNo X8.here hx rfl (hb hby d2_11) rfl (tlt ((by decide) : (3 : Int32) < (11 : Int32))).2.1 ?_
    show Steps p.tables e below (T8.setTop (mkF m 14 #[.val (.int (-111 : Int32)), .val (.ref w_n10), .val (.int (11 : Int32)), .val (.int (3 : Int32)), .val (.ref w_n2)] [])) _
    refine XS.aloadN X8.here hx rfl (hb hby d2_14) rfl rfl ?_
    show Steps p.tables e below (T8.setTop (mkF m 15 #[.val (.int (-111 : Int32)), .val (.ref w_n10), .val (.int (11 : Int32)), .val (.int (3 : Int32)), .val (.ref w_n2)] [(.ref w_n10)])) _
    refine XS.iloadN X8.here hx rfl (hb hby d2_15) rfl ?_
    show Steps p.tables e below (T8.setTop (mkF m 16 #[.val (.int (-111 : Int32)), .val (.ref w_n10), .val (.int (11 : Int32)), .val (.int (3 : Int32)), .val (.ref w_n2)] [(.int (3 : Int32)), (.ref w_n10)])) _
    refine X8.aaload hx (j := (3 : Int32)) (v := (.ref w_n5)) (by rw [e8]; exact Ar9.1) (State.isArrayOf_alike hZ.alike Ar9.2.1) rfl Ar9.2.2 hin9 hat9 (g := (mkF m 16 #[.val (.int (-111 : Int32)), .val (.ref w_n10), .val (.int (11 : Int32)), .val (.int (3 : Int32)), .val (.ref w_n2)] [(.int (3 : Int32)), (.ref w_n10)])) rfl rfl (hb hby d2_16) _ ?_
    show Steps p.tables e below (T8.setTop (mkF m 17 #[.val (.int (-111 : Int32)), .val (.ref w_n10), .val (.int (11 : Int32)), .val (.int (3 : Int32)), .val (.ref w_n2)] [(.ref w_n5)])) _
    refine XS.astore X8.here hx rfl (hb hby d2_17) rfl rfl (l' := #[.val (.int (-111 : Int32)), .val (.ref w_n10), .val (.int (11 : Int32)), .val (.int (3 : Int32)), .val (.ref w_n5)]) rfl ?_
    show Steps p.tables e below (T8.setTop (mkF m 19 #[.val (.int (-111 : Int32)), .val (.ref w_n10), .val (.int (11 : Int32)), .val (.int (3 : Int32)), .val (.ref w_n5)] [])) _
    refine XS.aload X8.here hx rfl (hb hby d2_19) rfl rfl ?_
    show Steps p.tables e below (T8.setTop (mkF m 21 #[.val (.int (-111 : Int32)), .val (.ref w_n10), .val (.int (11 : Int32)), .val (.int (3 : Int32)), .val (.ref w_n5)] [(.ref w_n5)])) _
    refine st10 _ ?_
    show Steps p.tables e below (T10.setTop (mkF m 24 #[.val (.int (-111 : Int32)), .val (.ref w_n10), .val (.int (11 : Int32)), .val (.int (3 : Int32)), .val (.ref w_n5)] [(.int (-6 : Int32))])) _
    refine XS.iloadN X10.here hx rfl (hb hby d2_24) rfl ?_
    show Steps p.tables e below (T10.setTop (mkF m 25 #[.val (.int (-111 : Int32)), .val (.ref w_n10), .val (.int (11 : Int32)), .val (.int (3 : Int32)), .val (.ref w_n5)] [(.int (-111 : Int32)), (.int (-6 : Int32))])) _
    refine XS.icmpYes X10.here hx rfl (pc0 := 25) (pc' := 34) rfl (hb hby d2_25) rfl (feq ((by decide) : ¬ ((-6 : Int32) = (-111 : Int32)))).2 (by decide) (by decide) ?_
    show Steps p.tables e below (T10.setTop (mkF m 34 #[.val (.int (-111 : Int32)), .val (.ref w_n10), .val (.int (11 : Int32)), .val (.int (3 : Int32)), .val (.ref w_n5)] [])) _
    refine XS.iinc X10.here hx rfl (hb hby d2_34) rfl (l' := #[.val (.int (-111 : Int32)), .val (.ref w_n10), .val (.int (11 : Int32)), .val (.int ((3 : Int32) + (1 : Int32))), .val (.ref w_n5)]) rfl ?_
    show Steps p.tables e below (T10.setTop (mkF m 37 #[.val (.int (-111 : Int32)), .val (.ref w_n10), .val (.int (11 : Int32)), .val (.int ((3 : Int32) + (1 : Int32))), .val (.ref w_n5)] [])) _
    rw [show ((3 : Int32) + (1 : Int32)) = (4 : Int32) from by decide]
    show Steps p.tables e below (T10.setTop (mkF m 37 #[.val (.int (-111 : Int32)), .val (.ref w_n10), .val (.int (11 : Int32)), .val (.int (4 : Int32)), .val (.ref w_n5)] [])) _
    refine XS.goto X10.here hx rfl (pc0 := 37) (pc' := 9) rfl (hb hby d2_37) (by decide) (by decide) ?_
    show Steps p.tables e below (T10.setTop (mkF m 9 #[.val (.int (-111 : Int32)), .val (.ref w_n10), .val (.int (11 : Int32)), .val (.int (4 : Int32)), .val (.ref w_n5)] [])) _
    refine XS.iloadN X10.here hx rfl (hb hby d2_9) rfl ?_
    show Steps p.tables e below (T10.setTop (mkF m 10 #[.val (.int (-111 : Int32)), .val (.ref w_n10), .val (.int (11 : Int32)), .val (.int (4 : Int32)), .val (.ref w_n5)] [(.int (4 : Int32))])) _
    refine XS.iloadN X10.here hx rfl (hb hby d2_10) rfl ?_
    show Steps p.tables e below (T10.setTop (mkF m 11 #[.val (.int (-111 : Int32)), .val (.ref w_n10), .val (.int (11 : Int32)), .val (.int (4 : Int32)), .val (.ref w_n5)] [(.int (11 : Int32)), (.int (4 : Int32))])) _
    refine XS.icmpNo X10.here hx rfl (hb hby d2_11) rfl (tlt ((by decide) : (4 : Int32) < (11 : Int32))).2.1 ?_
    show Steps p.tables e below (T10.setTop (mkF m 14 #[.val (.int (-111 : Int32)), .val (.ref w_n10), .val (.int (11 : Int32)), .val (.int (4 : Int32)), .val (.ref w_n5)] [])) _
    refine XS.aloadN X10.here hx rfl (hb hby d2_14) rfl rfl ?_
    show Steps p.tables e below (T10.setTop (mkF m 15 #[.val (.int (-111 : Int32)), .val (.ref w_n10), .val (.int (11 : Int32)), .val (.int (4 : Int32)), .val (.ref w_n5)] [(.ref w_n10)])) _
    refine XS.iloadN X10.here hx rfl (hb hby d2_15) rfl ?_
    show Steps p.tables e below (T10.setTop (mkF m 16 #[.val (.int (-111 : Int32)), .val (.ref w_n10), .val (.int (11 : Int32)), .val (.int (4 : Int32)), .val (.ref w_n5)] [(.int (4 : Int32)), (.ref w_n10)])) _
    refine X10.aaload hx (j := (4 : Int32)) (v := (.ref w_n4)) (by rw [e10]; exact Ar11.1) (State.isArrayOf_alike hZ.alike Ar11.2.1) rfl Ar11.2.2 hin11 hat11 (g := (mkF m 16 #[.val (.int (-111 : Int32)), .val (.ref w_n10), .val (.int (11 : Int32)), .val (.int (4 : Int32)), .val (.ref w_n5)] [(.int (4 : Int32)), (.ref w_n10)])) rfl rfl (hb hby d2_16) _ ?_
    show Steps p.tables e below (T10.setTop (mkF m 17 #[.val (.int (-111 : Int32)), .val (.ref w_n10), .val (.int (11 : Int32)), .val (.int (4 : Int32)), .val (.ref w_n5)] [(.ref w_n4)])) _
    refine XS.astore X10.here hx rfl (hb hby d2_17) rfl rfl (l' := #[.val (.int (-111 : Int32)), .val (.ref w_n10), .val (.int (11 : Int32)), .val (.int (4 : Int32)), .val (.ref w_n4)]) rfl ?_
    show Steps p.tables e below (T10.setTop (mkF m 19 #[.val (.int (-111 : Int32)), .val (.ref w_n10), .val (.int (11 : Int32)), .val (.int (4 : Int32)), .val (.ref w_n4)] [])) _
    refine XS.aload X10.here hx rfl (hb hby d2_19) rfl rfl ?_
    show Steps p.tables e below (T10.setTop (mkF m 21 #[.val (.int (-111 : Int32)), .val (.ref w_n10), .val (.int (11 : Int32)), .val (.int (4 : Int32)), .val (.ref w_n4)] [(.ref w_n4)])) _
    refine st12 _ ?_
    show Steps p.tables e below (T12.setTop (mkF m 24 #[.val (.int (-111 : Int32)), .val (.ref w_n10), .val (.int (11 : Int32)), .val (.int (4 : Int32)), .val (.ref w_n4)] [(.int (-8 : Int32))])) _
    refine XS.iloadN X12.here hx rfl (hb hby d2_24) rfl ?_
    show Steps p.tables e below (T12.setTop (mkF m 25 #[.val (.int (-111 : Int32)), .val (.ref w_n10), .val (.int (11 : Int32)), .val (.int (4 : Int32)), .val (.ref w_n4)] [(.int (-111 : Int32)), (.int (-8 : Int32))])) _
    refine XS.icmpYes X12.here hx rfl (pc0 := 25) (pc' := 34) rfl (hb hby d2_25) rfl (feq ((by decide) : ¬ ((-8 : Int32) = (-111 : Int32)))).2 (by decide) (by decide) ?_
    show Steps p.tables e below (T12.setTop (mkF m 34 #[.val (.int (-111 : Int32)), .val (.ref w_n10), .val (.int (11 : Int32)), .val (.int (4 : Int32)), .val (.ref w_n4)] [])) _
    refine XS.iinc X12.here hx rfl (hb hby d2_34) rfl (l' := #[.val (.int (-111 : Int32)), .val (.ref w_n10), .val (.int (11 : Int32)), .val (.int ((4 : Int32) + (1 : Int32))), .val (.ref w_n4)]) rfl ?_
    show Steps p.tables e below (T12.setTop (mkF m 37 #[.val (.int (-111 : Int32)), .val (.ref w_n10), .val (.int (11 : Int32)), .val (.int ((4 : Int32) + (1 : Int32))), .val (.ref w_n4)] [])) _
    rw [show ((4 : Int32) + (1 : Int32)) = (5 : Int32) from by decide]
    show Steps p.tables e below (T12.setTop (mkF m 37 #[.val (.int (-111 : Int32)), .val (.ref w_n10), .val (.int (11 : Int32)), .val (.int (5 : Int32)), .val (.ref w_n4)] [])) _
    refine XS.goto X12.here hx rfl (pc0 := 37) (pc' := 9) rfl (hb hby d2_37) (by decide) (by decide) ?_
    show Steps p.tables e below (T12.setTop (mkF m 9 #[.val (.int (-111 : Int32)), .val (.ref w_n10), .val (.int (11 : Int32)), .val (.int (5 : Int32)), .val (.ref w_n4)] [])) _
    refine XS.iloadN X12.here hx rfl (hb hby d2_9) rfl ?_
    show Steps p.tables e below (T12.setTop (mkF m 10 #[.val (.int (-111 : Int32)), .val (.ref w_n10), .val (.int (11 : Int32)), .val (.int (5 : Int32)), .val (.ref w_n4)] [(.int (5 : Int32))])) _
    refine XS.iloadN X12.here hx rfl (hb hby d2_10) rfl ?_
    show Steps p.tables e below (T12.setTop (mkF m 11 #[.val (.int (-111 : Int32)), .val (.ref w_n10), .val (.int (11 : Int32)), .val (.int (5 : Int32)), .val (.ref w_n4)] [(.int (11 : Int32)), (.int (5 : Int32))])) _
    refine XS.icmpNo X12.here hx rfl (hb hby d2_11) rfl (tlt ((by decide) : (5 : Int32) < (11 : Int32))).2.1 ?_
    show Steps p.tables e below (T12.setTop (mkF m 14 #[.val (.int (-111 : Int32)), .val (.ref w_n10), .val (.int (11 : Int32)), .val (.int (5 : Int32)), .val (.ref w_n4)] [])) _
    refine XS.aloadN X12.here hx rfl (hb hby d2_14) rfl rfl ?_
    show Steps p.tables e below (T12.setTop (mkF m 15 #[.val (.int (-111 : Int32)), .val (.ref w_n10), .val (.int (11 : Int32)), .val (.int (5 : Int32)), .val (.ref w_n4)] [(.ref w_n10)])) _
    refine XS.iloadN X12.here hx rfl (hb hby d2_15) rfl ?_
    show Steps p.tables e below (T12.setTop (mkF m 16 #[.val (.int (-111 : Int32)), .val (.ref w_n10), .val (.int (11 : Int32)), .val (.int (5 : Int32)), .val (.ref w_n4)] [(.int (5 : Int32)), (.ref w_n10)])) _
    refine X12.aaload hx (j := (5 : Int32)) (v := (.ref w_n9)) (by rw [e12]; exact Ar13.1) (State.isArrayOf_alike hZ.alike Ar13.2.1) rfl Ar13.2.2 hin13 hat13 (g := (mkF m 16 #[.val (.int (-111 : Int32)), .val (.ref w_n10), .val (.int (11 : Int32)), .val (.int (5 : Int32)), .val (.ref w_n4)] [(.int (5 : Int32)), (.ref w_n10)])) rfl rfl (hb hby d2_16) _ ?_
    show Steps p.tables e below (T12.setTop (mkF m 17 #[.val (.int (-111 : Int32)), .val (.ref w_n10), .val (.int (11 : Int32)), .val (.int (5 : Int32)), .val (.ref w_n4)] [(.ref w_n9)])) _
    refine XS.astore X12.here hx rfl (hb hby d2_17) rfl rfl (l' := #[.val (.int (-111 : Int32)), .val (.ref w_n10), .val (.int (11 : Int32)), .val (.int (5 : Int32)), .val (.ref w_n9)]) rfl ?_
    show Steps p.tables e below (T12.setTop (mkF m 19 #[.val (.int (-111 : Int32)), .val (.ref w_n10), .val (.int (11 : Int32)), .val (.int (5 : Int32)), .val (.ref w_n9)] [])) _
    refine XS.aload X12.here hx rfl (hb hby d2_19) rfl rfl ?_
    show Steps p.tables e below (T12.setTop (mkF m 21 #[.val (.int (-111 : Int32)), .val (.ref w_n10), .val (.int (11 : Int32)), .val (.int (5 : Int32)), .val (.ref w_n9)] [(.ref w_n9)])) _
    refine st14 _ ?_
    show Steps p.tables e below (T14.setTop (mkF m 24 #[.val (.int (-111 : Int32)), .val (.ref w_n10), .val (.int (11 : Int32)), .val (.int (5 : Int32)), .val (.ref w_n9)] [(.int (-101 : Int32))])) _
    refine XS.iloadN X14.here hx rfl (hb hby d2_24) rfl ?_
    show Steps p.tables e below (T14.setTop (mkF m 25 #[.val (.int (-111 : Int32)), .val (.ref w_n10), .val (.int (11 : Int32)), .val (.int (5 : Int32)), .val (.ref w_n9)] [(.int (-111 : Int32)), (.int (-101 : Int32))])) _
    refine XS.icmpYes X14.here hx rfl (pc0 := 25) (pc' := 34) rfl (hb hby d2_25) rfl (feq ((by decide) : ¬ ((-101 : Int32) = (-111 : Int32)))).2 (by decide) (by decide) ?_
    show Steps p.tables e below (T14.setTop (mkF m 34 #[.val (.int (-111 : Int32)), .val (.ref w_n10), .val (.int (11 : Int32)), .val (.int (5 : Int32)), .val (.ref w_n9)] [])) _
    refine XS.iinc X14.here hx rfl (hb hby d2_34) rfl (l' := #[.val (.int (-111 : Int32)), .val (.ref w_n10), .val (.int (11 : Int32)), .val (.int ((5 : Int32) + (1 : Int32))), .val (.ref w_n9)]) rfl ?_
    show Steps p.tables e below (T14.setTop (mkF m 37 #[.val (.int (-111 : Int32)), .val (.ref w_n10), .val (.int (11 : Int32)), .val (.int ((5 : Int32) + (1 : Int32))), .val (.ref w_n9)] [])) _
    rw [show ((5 : Int32) + (1 : Int32)) = (6 : Int32) from by decide]
    show Steps p.tables e below (T14.setTop (mkF m 37 #[.val (.int (-111 : Int32)), .val (.ref w_n10), .val (.int (11 : Int32)), .val (.int (6 : Int32)), .val (.ref w_n9)] [])) _
    refine XS.goto X14.here hx rfl (pc0 := 37) (pc' := 9) rfl (hb hby d2_37) (by decide) (by decide) ?_
    show Steps p.tables e below (T14.setTop (mkF m 9 #[.val (.int (-111 : Int32)), .val (.ref w_n10), .val (.int (11 : Int32)), .val (.int (6 : Int32)), .val (.ref w_n9)] [])) _
    refine XS.iloadN X14.here hx rfl (hb hby d2_9) rfl ?_
    show Steps p.tables e below (T14.setTop (mkF m 10 #[.val (.int (-111 : Int32)), .val (.ref w_n10), .val (.int (11 : Int32)), .val (.int (6 : Int32)), .val (.ref w_n9)] [(.int (6 : Int32))])) _
    refine XS.iloadN X14.here hx rfl (hb hby d2_10) rfl ?_
    show Steps p.tables e below (T14.setTop (mkF m 11 #[.val (.int (-111 : Int32)), .val (.ref w_n10), .val (.int (11 : Int32)), .val (.int (6 : Int32)), .val (.ref w_n9)] [(.int (11 : Int32)), (.int (6 : Int32))])) _
    refine XS.icmpNo X14.here hx rfl (hb hby d2_11) rfl (tlt ((by decide) : (6 : Int32) < (11 : Int32))).2.1 ?_
    show Steps p.tables e below (T14.setTop (mkF m 14 #[.val (.int (-111 : Int32)), .val (.ref w_n10), .val (.int (11 : Int32)), .val (.int (6 : Int32)), .val (.ref w_n9)] [])) _
    refine XS.aloadN X14.here hx rfl (hb hby d2_14) rfl rfl ?_
    show Steps p.tables e below (T14.setTop (mkF m 15 #[.val (.int (-111 : Int32)), .val (.ref w_n10), .val (.int (11 : Int32)), .val (.int (6 : Int32)), .val (.ref w_n9)] [(.ref w_n10)])) _
    refine XS.iloadN X14.here hx rfl (hb hby d2_15) rfl ?_
    show Steps p.tables e below (T14.setTop (mkF m 16 #[.val (.int (-111 : Int32)), .val (.ref w_n10), .val (.int (11 : Int32)), .val (.int (6 : Int32)), .val (.ref w_n9)] [(.int (6 : Int32)), (.ref w_n10)])) _
    refine X14.aaload hx (j := (6 : Int32)) (v := (.ref w_n6)) (by rw [e14]; exact Ar15.1) (State.isArrayOf_alike hZ.alike Ar15.2.1) rfl Ar15.2.2 hin15 hat15 (g := (mkF m 16 #[.val (.int (-111 : Int32)), .val (.ref w_n10), .val (.int (11 : Int32)), .val (.int (6 : Int32)), .val (.ref w_n9)] [(.int (6 : Int32)), (.ref w_n10)])) rfl rfl (hb hby d2_16) _ ?_
    show Steps p.tables e below (T14.setTop (mkF m 17 #[.val (.int (-111 : Int32)), .val (.ref w_n10), .val (.int (11 : Int32)), .val (.int (6 : Int32)), .val (.ref w_n9)] [(.ref w_n6)])) _
    refine XS.astore X14.here hx rfl (hb hby d2_17) rfl rfl (l' := #[.val (.int (-111 : Int32)), .val (.ref w_n10), .val (.int (11 : Int32)), .val (.int (6 : Int32)), .val (.ref w_n6)]) rfl ?_
    show Steps p.tables e below (T14.setTop (mkF m 19 #[.val (.int (-111 : Int32)), .val (.ref w_n10), .val (.int (11 : Int32)), .val (.int (6 : Int32)), .val (.ref w_n6)] [])) _
    refine XS.aload X14.here hx rfl (hb hby d2_19) rfl rfl ?_
    show Steps p.tables e below (T14.setTop (mkF m 21 #[.val (.int (-111 : Int32)), .val (.ref w_n10), .val (.int (11 : Int32)), .val (.int (6 : Int32)), .val (.ref w_n6)] [(.ref w_n6)])) _
    refine st16 _ ?_
    show Steps p.tables e below (T16.setTop (mkF m 24 #[.val (.int (-111 : Int32)), .val (.ref w_n10), .val (.int (11 : Int32)), .val (.int (6 : Int32)), .val (.ref w_n6)] [(.int (-103 : Int32))])) _
    refine XS.iloadN X16.here hx rfl (hb hby d2_24) rfl ?_
    show Steps p.tables e below (T16.setTop (mkF m 25 #[.val (.int (-111 : Int32)), .val (.ref w_n10), .val (.int (11 : Int32)), .val (.int (6 : Int32)), .val (.ref w_n6)] [(.int (-111 : Int32)), (.int (-103 : Int32))])) _
    refine XS.icmpYes X16.here hx rfl (pc0 := 25) (pc' := 34) rfl (hb hby d2_25) rfl (feq ((by decide) : ¬ ((-103 : Int32) = (-111 : Int32)))).2 (by decide) (by decide) ?_
    show Steps p.tables e below (T16.setTop (mkF m 34 #[.val (.int (-111 : Int32)), .val (.ref w_n10), .val (.int (11 : Int32)), .val (.int (6 : Int32)), .val (.ref w_n6)] [])) _
    refine XS.iinc X16.here hx rfl (hb hby d2_34) rfl (l' := #[.val (.int (-111 : Int32)), .val (.ref w_n10), .val (.int (11 : Int32)), .val (.int ((6 : Int32) + (1 : Int32))), .val (.ref w_n6)]) rfl ?_
    show Steps p.tables e below (T16.setTop (mkF m 37 #[.val (.int (-111 : Int32)), .val (.ref w_n10), .val (.int (11 : Int32)), .val (.int ((6 : Int32) + (1 : Int32))), .val (.ref w_n6)] [])) _
    rw [show ((6 : Int32) + (1 : Int32)) = (7 : Int32) from by decide]
    show Steps p.tables e below (T16.setTop (mkF m 37 #[.val (.int (-111 : Int32)), .val (.ref w_n10), .val (.int (11 : Int32)), .val (.int (7 : Int32)), .val (.ref w_n6)] [])) _
    refine XS.goto X16.here hx rfl (pc0 := 37) (pc' := 9) rfl (hb hby d2_37) (by decide) (by decide) ?_
    show Steps p.tables e below (T16.setTop (mkF m 9 #[.val (.int (-111 : Int32)), .val (.ref w_n10), .val (.int (11 : Int32)), .val (.int (7 : Int32)), .val (.ref w_n6)] [])) _
    refine XS.iloadN X16.here hx rfl (hb hby d2_9) rfl ?_
    show Steps p.tables e below (T16.setTop (mkF m 10 #[.val (.int (-111 : Int32)), .val (.ref w_n10), .val (.int (11 : Int32)), .val (.int (7 : Int32)), .val (.ref w_n6)] [(.int (7 : Int32))])) _
    refine XS.iloadN X16.here hx rfl (hb hby d2_10) rfl ?_
    show Steps p.tables e below (T16.setTop (mkF m 11 #[.val (.int (-111 : Int32)), .val (.ref w_n10), .val (.int (11 : Int32)), .val (.int (7 : Int32)), .val (.ref w_n6)] [(.int (11 : Int32)), (.int (7 : Int32))])) _
    refine XS.icmpNo X16.here hx rfl (hb hby d2_11) rfl (tlt ((by decide) : (7 : Int32) < (11 : Int32))).2.1 ?_
    show Steps p.tables e below (T16.setTop (mkF m 14 #[.val (.int (-111 : Int32)), .val (.ref w_n10), .val (.int (11 : Int32)), .val (.int (7 : Int32)), .val (.ref w_n6)] [])) _
    refine XS.aloadN X16.here hx rfl (hb hby d2_14) rfl rfl ?_
    show Steps p.tables e below (T16.setTop (mkF m 15 #[.val (.int (-111 : Int32)), .val (.ref w_n10), .val (.int (11 : Int32)), .val (.int (7 : Int32)), .val (.ref w_n6)] [(.ref w_n10)])) _
    refine XS.iloadN X16.here hx rfl (hb hby d2_15) rfl ?_
    show Steps p.tables e below (T16.setTop (mkF m 16 #[.val (.int (-111 : Int32)), .val (.ref w_n10), .val (.int (11 : Int32)), .val (.int (7 : Int32)), .val (.ref w_n6)] [(.int (7 : Int32)), (.ref w_n10)])) _
    refine X16.aaload hx (j := (7 : Int32)) (v := (.ref w_n0)) (by rw [e16]; exact Ar17.1) (State.isArrayOf_alike hZ.alike Ar17.2.1) rfl Ar17.2.2 hin17 hat17 (g := (mkF m 16 #[.val (.int (-111 : Int32)), .val (.ref w_n10), .val (.int (11 : Int32)), .val (.int (7 : Int32)), .val (.ref w_n6)] [(.int (7 : Int32)), (.ref w_n10)])) rfl rfl (hb hby d2_16) _ ?_
    show Steps p.tables e below (T16.setTop (mkF m 17 #[.val (.int (-111 : Int32)), .val (.ref w_n10), .val (.int (11 : Int32)), .val (.int (7 : Int32)), .val (.ref w_n6)] [(.ref w_n0)])) _
    refine XS.astore X16.here hx rfl (hb hby d2_17) rfl rfl (l' := #[.val (.int (-111 : Int32)), .val (.ref w_n10), .val (.int (11 : Int32)), .val (.int (7 : Int32)), .val (.ref w_n0)]) rfl ?_
    show Steps p.tables e below (T16.setTop (mkF m 19 #[.val (.int (-111 : Int32)), .val (.ref w_n10), .val (.int (11 : Int32)), .val (.int (7 : Int32)), .val (.ref w_n0)] [])) _
    refine XS.aload X16.here hx rfl (hb hby d2_19) rfl rfl ?_
    show Steps p.tables e below (T16.setTop (mkF m 21 #[.val (.int (-111 : Int32)), .val (.ref w_n10), .val (.int (11 : Int32)), .val (.int (7 : Int32)), .val (.ref w_n0)] [(.ref w_n0)])) _
    refine st18 _ ?_
    show Steps p.tables e below (T18.setTop (mkF m 24 #[.val (.int (-111 : Int32)), .val (.ref w_n10), .val (.int (11 : Int32)), .val (.int (7 : Int32)), .val (.ref w_n0)] [(.int (-108 : Int32))])) _
    refine XS.iloadN X18.here hx rfl (hb hby d2_24) rfl ?_
    show Steps p.tables e below (T18.setTop (mkF m 25 #[.val (.int (-111 : Int32)), .val (.ref w_n10), .val (.int (11 : Int32)), .val (.int (7 : Int32)), .val (.ref w_n0)] [(.int (-111 : Int32)), (.int (-108 : Int32))])) _
    refine XS.icmpYes X18.here hx rfl (pc0 := 25) (pc' := 34) rfl (hb hby d2_25) rfl (feq ((by decide) : ¬ ((-108 : Int32) = (-111 : Int32)))).2 (by decide) (by decide) ?_
    show Steps p.tables e below (T18.setTop (mkF m 34 #[.val (.int (-111 : Int32)), .val (.ref w_n10), .val (.int (11 : Int32)), .val (.int (7 : Int32)), .val (.ref w_n0)] [])) _
    refine XS.iinc X18.here hx rfl (hb hby d2_34) rfl (l' := #[.val (.int (-111 : Int32)), .val (.ref w_n10), .val (.int (11 : Int32)), .val (.int ((7 : Int32) + (1 : Int32))), .val (.ref w_n0)]) rfl ?_
    show Steps p.tables e below (T18.setTop (mkF m 37 #[.val (.int (-111 : Int32)), .val (.ref w_n10), .val (.int (11 : Int32)), .val (.int ((7 : Int32) + (1 : Int32))), .val (.ref w_n0)] [])) _
    rw [show ((7 : Int32) + (1 : Int32)) = (8 : Int32) from by decide]
    show Steps p.tables e below (T18.setTop (mkF m 37 #[.val (.int (-111 : Int32)), .val (.ref w_n10), .val (.int (11 : Int32)), .val (.int (8 : Int32)), .val (.ref w_n0)] [])) _
    refine XS.goto X18.here hx rfl (pc0 := 37) (pc' := 9) rfl (hb hby d2_37) (by decide) (by decide) ?_
    show Steps p.tables e below (T18.setTop (mkF m 9 #[.val (.int (-111 : Int32)), .val (.ref w_n10), .val (.int (11 : Int32)), .val (.int (8 : Int32)), .val (.ref w_n0)] [])) _
    refine XS.iloadN X18.here hx rfl (hb hby d2_9) rfl ?_
    show Steps p.tables e below (T18.setTop (mkF m 10 #[.val (.int (-111 : Int32)), .val (.ref w_n10), .val (.int (11 : Int32)), .val (.int (8 : Int32)), .val (.ref w_n0)] [(.int (8 : Int32))])) _
    refine XS.iloadN X18.here hx rfl (hb hby d2_10) rfl ?_
    show Steps p.tables e below (T18.setTop (mkF m 11 #[.val (.int (-111 : Int32)), .val (.ref w_n10), .val (.int (11 : Int32)), .val (.int (8 : Int32)), .val (.ref w_n0)] [(.int (11 : Int32)), (.int (8 : Int32))])) _
    refine XS.icmpNo X18.here hx rfl (hb hby d2_11) rfl (tlt ((by decide) : (8 : Int32) < (11 : Int32))).2.1 ?_
    show Steps p.tables e below (T18.setTop (mkF m 14 #[.val (.int (-111 : Int32)), .val (.ref w_n10), .val (.int (11 : Int32)), .val (.int (8 : Int32)), .val (.ref w_n0)] [])) _
    refine XS.aloadN X18.here hx rfl (hb hby d2_14) rfl rfl ?_
    show Steps p.tables e below (T18.setTop (mkF m 15 #[.val (.int (-111 : Int32)), .val (.ref w_n10), .val (.int (11 : Int32)), .val (.int (8 : Int32)), .val (.ref w_n0)] [(.ref w_n10)])) _
    refine XS.iloadN X18.here hx rfl (hb hby d2_15) rfl ?_
    show Steps p.tables e below (T18.setTop (mkF m 16 #[.val (.int (-111 : Int32)), .val (.ref w_n10), .val (.int (11 : Int32)), .val (.int (8 : Int32)), .val (.ref w_n0)] [(.int (8 : Int32)), (.ref w_n10)])) _
    refine X18.aaload hx (j := (8 : Int32)) (v := (.ref w_n7)) (by rw [e18]; exact Ar19.1) (State.isArrayOf_alike hZ.alike Ar19.2.1) rfl Ar19.2.2 hin19 hat19 (g := (mkF m 16 #[.val (.int (-111 : Int32)), .val (.ref w_n10), .val (.int (11 : Int32)), .val (.int (8 : Int32)), .val (.ref w_n0)] [(.int (8 : Int32)), (.ref w_n10)])) rfl rfl (hb hby d2_16) _ ?_
    show Steps p.tables e below (T18.setTop (mkF m 17 #[.val (.int (-111 : Int32)), .val (.ref w_n10), .val (.int (11 : Int32)), .val (.int (8 : Int32)), .val (.ref w_n0)] [(.ref w_n7)])) _
    refine XS.astore X18.here hx rfl (hb hby d2_17) rfl rfl (l' := #[.val (.int (-111 : Int32)), .val (.ref w_n10), .val (.int (11 : Int32)), .val (.int (8 : Int32)), .val (.ref w_n7)]) rfl ?_
    show Steps p.tables e below (T18.setTop (mkF m 19 #[.val (.int (-111 : Int32)), .val (.ref w_n10), .val (.int (11 : Int32)), .val (.int (8 : Int32)), .val (.ref w_n7)] [])) _
    refine XS.aload X18.here hx rfl (hb hby d2_19) rfl rfl ?_
    show Steps p.tables e below (T18.setTop (mkF m 21 #[.val (.int (-111 : Int32)), .val (.ref w_n10), .val (.int (11 : Int32)), .val (.int (8 : Int32)), .val (.ref w_n7)] [(.ref w_n7)])) _
    refine st20 _ ?_
    show Steps p.tables e below (T20.setTop (mkF m 24 #[.val (.int (-111 : Int32)), .val (.ref w_n10), .val (.int (11 : Int32)), .val (.int (8 : Int32)), .val (.ref w_n7)] [(.int (-110 : Int32))])) _
    refine XS.iloadN X20.here hx rfl (hb hby d2_24) rfl ?_
    show Steps p.tables e below (T20.setTop (mkF m 25 #[.val (.int (-111 : Int32)), .val (.ref w_n10), .val (.int (11 : Int32)), .val (.int (8 : Int32)), .val (.ref w_n7)] [(.int (-111 : Int32)), (.int (-110 : Int32))])) _
    refine XS.icmpYes X20.here hx rfl (pc0 := 25) (pc' := 34) rfl (hb hby d2_25) rfl (feq ((by decide) : ¬ ((-110 : Int32) = (-111 : Int32)))).2 (by decide) (by decide) ?_
    show Steps p.tables e below (T20.setTop (mkF m 34 #[.val (.int (-111 : Int32)), .val (.ref w_n10), .val (.int (11 : Int32)), .val (.int (8 : Int32)), .val (.ref w_n7)] [])) _
    refine XS.iinc X20.here hx rfl (hb hby d2_34) rfl (l' := #[.val (.int (-111 : Int32)), .val (.ref w_n10), .val (.int (11 : Int32)), .val (.int ((8 : Int32) + (1 : Int32))), .val (.ref w_n7)]) rfl ?_
    show Steps p.tables e below (T20.setTop (mkF m 37 #[.val (.int (-111 : Int32)), .val (.ref w_n10), .val (.int (11 : Int32)), .val (.int ((8 : Int32) + (1 : Int32))), .val (.ref w_n7)] [])) _
    rw [show ((8 : Int32) + (1 : Int32)) = (9 : Int32) from by decide]
    show Steps p.tables e below (T20.setTop (mkF m 37 #[.val (.int (-111 : Int32)), .val (.ref w_n10), .val (.int (11 : Int32)), .val (.int (9 : Int32)), .val (.ref w_n7)] [])) _
    refine XS.goto X20.here hx rfl (pc0 := 37) (pc' := 9) rfl (hb hby d2_37) (by decide) (by decide) ?_
    show Steps p.tables e below (T20.setTop (mkF m 9 #[.val (.int (-111 : Int32)), .val (.ref w_n10), .val (.int (11 : Int32)), .val (.int (9 : Int32)), .val (.ref w_n7)] [])) _
    refine XS.iloadN X20.here hx rfl (hb hby d2_9) rfl ?_
    show Steps p.tables e below (T20.setTop (mkF m 10 #[.val (.int (-111 : Int32)), .val (.ref w_n10), .val (.int (11 : Int32)), .val (.int (9 : Int32)), .val (.ref w_n7)] [(.int (9 : Int32))])) _
    refine XS.iloadN X20.here hx rfl (hb hby d2_10) rfl ?_
    show Steps p.tables e below (T20.setTop (mkF m 11 #[.val (.int (-111 : Int32)), .val (.ref w_n10), .val (.int (11 : Int32)), .val (.int (9 : Int32)), .val (.ref w_n7)] [(.int (11 : Int32)), (.int (9 : Int32))])) _
    refine XS.icmpNo X20.here hx rfl (hb hby d2_11) rfl (tlt ((by decide) : (9 : Int32) < (11 : Int32))).2.1 ?_
    show Steps p.tables e below (T20.setTop (mkF m 14 #[.val (.int (-111 : Int32)), .val (.ref w_n10), .val (.int (11 : Int32)), .val (.int (9 : Int32)), .val (.ref w_n7)] [])) _
    refine XS.aloadN X20.here hx rfl (hb hby d2_14) rfl rfl ?_
    show Steps p.tables e below (T20.setTop (mkF m 15 #[.val (.int (-111 : Int32)), .val (.ref w_n10), .val (.int (11 : Int32)), .val (.int (9 : Int32)), .val (.ref w_n7)] [(.ref w_n10)])) _
    refine XS.iloadN X20.here hx rfl (hb hby d2_15) rfl ?_
    show Steps p.tables e below (T20.setTop (mkF m 16 #[.val (.int (-111 : Int32)), .val (.ref w_n10), .val (.int (11 : Int32)), .val (.int (9 : Int32)), .val (.ref w_n7)] [(.int (9 : Int32)), (.ref w_n10)])) _
    refine X20.aaload hx (j := (9 : Int32)) (v := (.ref w_n8)) (by rw [e20]; exact Ar21.1) (State.isArrayOf_alike hZ.alike Ar21.2.1) rfl Ar21.2.2 hin21 hat21 (g := (mkF m 16 #[.val (.int (-111 : Int32)), .val (.ref w_n10), .val (.int (11 : Int32)), .val (.int (9 : Int32)), .val (.ref w_n7)] [(.int (9 : Int32)), (.ref w_n10)])) rfl rfl (hb hby d2_16) _ ?_
    show Steps p.tables e below (T20.setTop (mkF m 17 #[.val (.int (-111 : Int32)), .val (.ref w_n10), .val (.int (11 : Int32)), .val (.int (9 : Int32)), .val (.ref w_n7)] [(.ref w_n8)])) _
    refine XS.astore X20.here hx rfl (hb hby d2_17) rfl rfl (l' := #[.val (.int (-111 : Int32)), .val (.ref w_n10), .val (.int (11 : Int32)), .val (.int (9 : Int32)), .val (.ref w_n8)]) rfl ?_
    show Steps p.tables e below (T20.setTop (mkF m 19 #[.val (.int (-111 : Int32)), .val (.ref w_n10), .val (.int (11 : Int32)), .val (.int (9 : Int32)), .val (.ref w_n8)] [])) _
    refine XS.aload X20.here hx rfl (hb hby d2_19) rfl rfl ?_
    show Steps p.tables e below (T20.setTop (mkF m 21 #[.val (.int (-111 : Int32)), .val (.ref w_n10), .val (.int (11 : Int32)), .val (.int (9 : Int32)), .val (.ref w_n8)] [(.ref w_n8)])) _
    refine st22 _ ?_
    show Steps p.tables e below (T22.setTop (mkF m 24 #[.val (.int (-111 : Int32)), .val (.ref w_n10), .val (.int (11 : Int32)), .val (.int (9 : Int32)), .val (.ref w_n8)] [(.int (-111 : Int32))])) _
    refine XS.iloadN X22.here hx rfl (hb hby d2_24) rfl ?_
    show Steps p.tables e below (T22.setTop (mkF m 25 #[.val (.int (-111 : Int32)), .val (.ref w_n10), .val (.int (11 : Int32)), .val (.int (9 : Int32)), .val (.ref w_n8)] [(.int (-111 : Int32)), (.int (-111 : Int32))])) _
    refine XS.icmpNo X22.here hx rfl (hb hby d2_25) rfl (teq ((by decide) : (-111 : Int32) = (-111 : Int32))).2 ?_
    show Steps p.tables e below (T22.setTop (mkF m 28 #[.val (.int (-111 : Int32)), .val (.ref w_n10), .val (.int (11 : Int32)), .val (.int (9 : Int32)), .val (.ref w_n8)] [])) _
    refine XS.aload X22.here hx rfl (hb hby d2_28) rfl rfl ?_
    show Steps p.tables e below (T22.setTop (mkF m 30 #[.val (.int (-111 : Int32)), .val (.ref w_n10), .val (.int (11 : Int32)), .val (.int (9 : Int32)), .val (.ref w_n8)] [(.ref w_n8)])) _
    refine st23 _ ?_
    show Steps p.tables e below (T23.setTop (mkF m 33 #[.val (.int (-111 : Int32)), .val (.ref w_n10), .val (.int (11 : Int32)), .val (.int (9 : Int32)), .val (.ref w_n8)] [(.ref b23_b1)])) _
    jvm_step X23.here [X23.here.top, hx, (hb hby d2_33), X23.method', Bd.returns, Value.isRef, FieldType.isReference]
    first | (intro acts; rw [hr _ acts rfl rfl rfl]) | rw [hr _ _ rfl rfl rfl]
    exact Steps.refl _
  · show QW (fun v h => ∃ b23_b1 : Addr, v = some (.ref b23_b1) ∧ Keep h0 h [] ∧ n0 ≤ b23_b1 ∧ h0.size ≤ b23_b1 ∧ Exa Z h b23_b1 "java/util/Optional" ∧ Fld Z h b23_b1 "java/util/Optional" "value" "Ljava/lang/Object;" (.ref w_n8)) n0 _ T23.heap _
    exact ⟨N23, ⟨b23_b1, rfl, K23, g_b23_b1, sz_b23_b1, fp23_0, fp23_1⟩⟩
theorem d8_88 : decode method_2_code 88 = .ok (.iload_n 0, 1) := by decide +kernel
theorem d8_89 : decode method_2_code 89 = .ok (.bipush (-111), 2) := by decide +kernel
theorem d8_91 : decode method_2_code 91 = .ok (.if_icmp .ne 7, 3) := by decide +kernel
theorem d8_94 : decode method_2_code 94 = .ok (.getstatic 37, 3) := by decide +kernel
theorem d8_97 : decode method_2_code 97 = .ok (.areturn, 1) := by decide +kernel
set_option maxRecDepth 65536 in
set_option maxHeartbeats 40000000 in
theorem rm_ex9 (l : Launch) (Z : State) (a0 : Array Value) (hw : ∀ d ∈ tables_1, d.before a0 Z = true) (ws : List Jvm.Cond) {w_n5 : Addr} {w_n10 : Addr} {w_OK : Addr} {w_n1 : Addr} {w_n2 : Addr} {w_n4 : Addr} {w_n9 : Addr} {w_n6 : Addr} {w_n0 : Addr} {w_n7 : Addr} {w_n8 : Addr} {w_n3 : Addr} {w_n11 : Addr} {k_n10 : ClassId} (W : Wd Z w_n5 w_n10 w_OK w_n1 w_n2 w_n4 w_n9 w_n6 w_n0 w_n7 w_n8 w_n3 w_n11 k_n10) (h0 : Heap) (n0 : Nat) (O0 : Old Z n0 h0) :
    MetFree l (⟨"com/example/usher/usher/wire/ErrorCodeForCodePinLaw", "expected", "(I)Lcom/example/usher/usher/wire/ErrorCode;"⟩ : MethodName) (head1 (Jvm.Cond.code (⟨"com/example/usher/usher/wire/ErrorCodeForCodePinLaw", "expected", "(I)Lcom/example/usher/usher/wire/ErrorCode;"⟩ : MethodName) method_2_code 1 (some (.object "com/example/usher/usher/wire/ErrorCode")) :: ws) ({ frames := 0, cells := 0, slots := 0, locals := 0 } : Room)) (fun a U => a = #[(.int (-111 : Int32))] ∧ Z.Warmed39 U.vm ∧ U.heap = h0) (fun _ _ _ _ _ => True) (fun _ U o U' => ∃ v L, o = .returned v ∧ QP (some (.ref w_n8)) h0 n0 v U'.heap L ∧ FrameEnd U o U' L ({ frames := 0, cells := 0, slots := 0, locals := 0 } : Room).cells ({ frames := 0, cells := 0, slots := 0, locals := 0 } : Room).slots) := by
  have W' := W; obtain ⟨S_n5, E_n5, S_n10, S_OK, E_OK, S_n1, E_n1, S_n2, E_n2, S_n4, E_n4, S_n9, E_n9, S_n6, E_n6, S_n0, E_n0, S_n7, E_n7, S_n8, E_n8, S_n3, E_n3, S_n11, E_n11, F_OK_code, F_n5_code, F_n1_code, F_n2_code, F_n4_code, F_n9_code, F_n6_code, F_n0_code, F_n7_code, F_n8_code, F_n3_code, F_n11_value, V_n10⟩ := W'
  refine MetFree.of_bodySF (plainFor_of_name pn_8) hisR ?_
  intro p e s m args below meth c s₁ Bd hml0 hP hK
  obtain ⟨rfl, hZ, hh⟩ := hP
  have hx := Bd.exec
  have hby := Bd.bytes
  have hml : c.maxLocals = 1 := hml0
  have hown : s.vm.findClass "com/example/usher/usher/wire/ErrorCodeForCodePinLaw" = some m.cls := findClass_of_methodNamed Bd.named
  have hnm := (name_of_methodNamed Bd.named Bd.method).1
  have X0 : Stand p l e ({ frames := 0, cells := 0, slots := 0, locals := 0 } : Room) s m #[(.int (-111 : Int32))] below meth c s₁ [] 0 0 := Stand.of_body Bd
  have e0 : s₁.heap = h0 := by rw [← hh, Bd.state]; rfl
  have N0 := Fr.nil n0
  have pre0 : ∀ t, Steps p.tables e below (s₁.setTop (mkF m 0 #[.val (.int (-111 : Int32))] [])) t → Steps p.tables e below (s₁.setTop (entryFrame m #[(.int (-111 : Int32))] 1)) t := fun t k => castTop (ef_8_5 m (-111 : Int32)) k
  obtain ⟨T1, X1, e1, st1⟩ := getS2 X0 hx hZ hown (host := "") (Or.inl (hw _ (List.mem_of_getElem? (i := 73) rfl))) Via.refl e0 (S_n8.ext O0.2) (g := (mkF m 94 #[.val (.int (-111 : Int32))] [])) rfl (hb hby d8_94)
  obtain ⟨fs, hr, hrun, hended, hW, hsame⟩ := X1.leave (v := some (.ref w_n8)) (fun h => by rw [Bd.returns] at h; cases h)
  refine ⟨_, _, pre0 _ ?_, hrun, hended, _, _, rfl, ?_, ⟨_, rfl⟩, hW, hsame.mono (by decide) (by decide)⟩
  · show Steps p.tables e below (s₁.setTop (mkF m 0 #[.val (.int (-111 : Int32))] [])) _
    refine XS.iloadN X0.here hx rfl (hb hby d8_0) rfl ?_
    show Steps p.tables e below (s₁.setTop (mkF m 1 #[.val (.int (-111 : Int32))] [(.int (-111 : Int32))])) _
    refine XS.ifYes X0.here hx rfl (pc0 := 1) (pc' := 8) rfl (hb hby d8_1) rfl ((if0 _ _).trans (feq ((by decide) : ¬ ((-111 : Int32) = (0 : Int32)))).2) (by decide) (by decide) ?_
    show Steps p.tables e below (s₁.setTop (mkF m 8 #[.val (.int (-111 : Int32))] [])) _
    refine XS.iloadN X0.here hx rfl (hb hby d8_8) rfl ?_
    show Steps p.tables e below (s₁.setTop (mkF m 9 #[.val (.int (-111 : Int32))] [(.int (-111 : Int32))])) _
    refine XS.bipush X0.here hx rfl (hb hby d8_9) ?_
    show Steps p.tables e below (s₁.setTop (mkF m 11 #[.val (.int (-111 : Int32))] [(.int (-2 : Int32)), (.int (-111 : Int32))])) _
    refine XS.icmpYes X0.here hx rfl (pc0 := 11) (pc' := 18) rfl (hb hby d8_11) rfl (feq ((by decide) : ¬ ((-111 : Int32) = (-2 : Int32)))).2 (by decide) (by decide) ?_
    show Steps p.tables e below (s₁.setTop (mkF m 18 #[.val (.int (-111 : Int32))] [])) _
    refine XS.iloadN X0.here hx rfl (hb hby d8_18) rfl ?_
    show Steps p.tables e below (s₁.setTop (mkF m 19 #[.val (.int (-111 : Int32))] [(.int (-111 : Int32))])) _
    refine XS.bipush X0.here hx rfl (hb hby d8_19) ?_
    show Steps p.tables e below (s₁.setTop (mkF m 21 #[.val (.int (-111 : Int32))] [(.int (-5 : Int32)), (.int (-111 : Int32))])) _
    refine XS.icmpYes X0.here hx rfl (pc0 := 21) (pc' := 28) rfl (hb hby d8_21) rfl (feq ((by decide) : ¬ ((-111 : Int32) = (-5 : Int32)))).2 (by decide) (by decide) ?_
    show Steps p.tables e below (s₁.setTop (mkF m 28 #[.val (.int (-111 : Int32))] [])) _
    refine XS.iloadN X0.here hx rfl (hb hby d8_28) rfl ?_
    show Steps p.tables e below (s₁.setTop (mkF m 29 #[.val (.int (-111 : Int32))] [(.int (-111 : Int32))])) _
    refine XS.bipush X0.here hx rfl (hb hby d8_29) ?_
    show Steps p.tables e below (s₁.setTop (mkF m 31 #[.val (.int (-111 : Int32))] [(.int (-6 : Int32)), (.int (-111 : Int32))])) _
    refine XS.icmpYes X0.here hx rfl (pc0 := 31) (pc' := 38) rfl (hb hby d8_31) rfl (feq ((by decide) : ¬ ((-111 : Int32) = (-6 : Int32)))).2 (by decide) (by decide) ?_
    show Steps p.tables e below (s₁.setTop (mkF m 38 #[.val (.int (-111 : Int32))] [])) _
    refine XS.iloadN X0.here hx rfl (hb hby d8_38) rfl ?_
    show Steps p.tables e below (s₁.setTop (mkF m 39 #[.val (.int (-111 : Int32))] [(.int (-111 : Int32))])) _
    refine XS.bipush X0.here hx rfl (hb hby d8_39) ?_
    show Steps p.tables e below (s₁.setTop (mkF m 41 #[.val (.int (-111 : Int32))] [(.int (-8 : Int32)), (.int (-111 : Int32))])) _
    refine XS.icmpYes X0.here hx rfl (pc0 := 41) (pc' := 48) rfl (hb hby d8_41) rfl (feq ((by decide) : ¬ ((-111 : Int32) = (-8 : Int32)))).2 (by decide) (by decide) ?_
    show Steps p.tables e below (s₁.setTop (mkF m 48 #[.val (.int (-111 : Int32))] [])) _
    refine XS.iloadN X0.here hx rfl (hb hby d8_48) rfl ?_
    show Steps p.tables e below (s₁.setTop (mkF m 49 #[.val (.int (-111 : Int32))] [(.int (-111 : Int32))])) _
    refine XS.bipush X0.here hx rfl (hb hby d8_49) ?_
    show Steps p.tables e below (s₁.setTop (mkF m 51 #[.val (.int (-111 : Int32))] [(.int (-101 : Int32)), (.int (-111 : Int32))])) _
    refine XS.icmpYes X0.here hx rfl (pc0 := 51) (pc' := 58) rfl (hb hby d8_51) rfl (feq ((by decide) : ¬ ((-111 : Int32) = (-101 : Int32)))).2 (by decide) (by decide) ?_
    show Steps p.tables e below (s₁.setTop (mkF m 58 #[.val (.int (-111 : Int32))] [])) _
    refine XS.iloadN X0.here hx rfl (hb hby d8_58) rfl ?_
    show Steps p.tables e below (s₁.setTop (mkF m 59 #[.val (.int (-111 : Int32))] [(.int (-111 : Int32))])) _
    refine XS.bipush X0.here hx rfl (hb hby d8_59) ?_
    show Steps p.tables e below (s₁.setTop (mkF m 61 #[.val (.int (-111 : Int32))] [(.int (-103 : Int32)), (.int (-111 : Int32))])) _
    refine XS.icmpYes X0.here hx rfl (pc0 := 61) (pc' := 68) rfl (hb hby d8_61) rfl (feq ((by decide) : ¬ ((-111 : Int32) = (-103 : Int32)))).2 (by decide) (by decide) ?_
    show Steps p.tables e below (s₁.setTop (mkF m 68 #[.val (.int (-111 : Int32))] [])) _
    refine XS.iloadN X0.here hx rfl (hb hby d8_68) rfl ?_
    show Steps p.tables e below (s₁.setTop (mkF m 69 #[.val (.int (-111 : Int32))] [(.int (-111 : Int32))])) _
    refine XS.bipush X0.here hx rfl (hb hby d8_69) ?_
    show Steps p.tables e below (s₁.setTop (mkF m 71 #[.val (.int (-111 : Int32))] [(.int (-108 : Int32)), (.int (-111 : Int32))])) _
    refine XS.icmpYes X0.here hx rfl (pc0 := 71) (pc' := 78) rfl (hb hby d8_71) rfl (feq ((by decide) : ¬ ((-111 : Int32) = (-108 : Int32)))).2 (by decide) (by decide) ?_
    show Steps p.tables e below (s₁.setTop (mkF m 78 #[.val (.int (-111 : Int32))] [])) _
    refine XS.iloadN X0.here hx rfl (hb hby d8_78) rfl ?_
    show Steps p.tables e below (s₁.setTop (mkF m 79 #[.val (.int (-111 : Int32))] [(.int (-111 : Int32))])) _
    refine XS.bipush X0.here hx rfl (hb hby d8_79) ?_
    show Steps p.tables e below (s₁.setTop (mkF m 81 #[.val (.int (-111 : Int32))] [(.int (-110 : Int32)), (.int (-111 : Int32))])) _
    refine XS.icmpYes X0.here hx rfl (pc0 := 81) (pc' := 88) rfl (hb hby d8_81) rfl (feq ((by decide) : ¬ ((-111 : Int32) = (-110 : Int32)))).2 (by decide) (by decide) ?_
    show Steps p.tables e below (s₁.setTop (mkF m 88 #[.val (.int (-111 : Int32))] [])) _
    refine XS.iloadN X0.here hx rfl (hb hby d8_88) rfl ?_
    show Steps p.tables e below (s₁.setTop (mkF m 89 #[.val (.int (-111 : Int32))] [(.int (-111 : Int32))])) _
    refine XS.bipush X0.here hx rfl (hb hby d8_89) ?_
    show Steps p.tables e below (s₁.setTop (mkF m 91 #[.val (.int (-111 : Int32))] [(.int (-111 : Int32)), (.int (-111 : Int32))])) _
    refine XS.icmpNo X0.here hx rfl (hb hby d8_91) rfl (teq ((by decide) : (-111 : Int32) = (-111 : Int32))).2 ?_
    show Steps p.tables e below (s₁.setTop (mkF m 94 #[.val (.int (-111 : Int32))] [])) _
    refine st1 _ ?_
    show Steps p.tables e below (T1.setTop (mkF m 97 #[.val (.int (-111 : Int32))] [(.ref w_n8)])) _
    jvm_step X1.here [X1.here.top, hx, (hb hby d8_97), X1.method', Bd.returns, Value.isRef, FieldType.isReference]
    first | (intro acts; rw [hr _ acts rfl rfl rfl]) | rw [hr _ _ rfl rfl rfl]
    exact Steps.refl _
  · show QP (some (.ref w_n8)) h0 n0 _ T1.heap _
    rw [e1]
    exact ⟨rfl, N0, rfl⟩
theorem d1_83 : decode method_3_code 83 = .ok (.iload_n 0, 1) := by decide +kernel
theorem d1_84 : decode method_3_code 84 = .ok (.bipush 9, 2) := by decide +kernel
theorem d1_86 : decode method_3_code 86 = .ok (.if_icmp .ne 7, 3) := by decide +kernel
theorem d1_89 : decode method_3_code 89 = .ok (.getstatic 37, 3) := by decide +kernel
theorem d1_92 : decode method_3_code 92 = .ok (.areturn, 1) := by decide +kernel
set_option maxRecDepth 65536 in
set_option maxHeartbeats 40000000 in
theorem rm_pk9 (l : Launch) (Z : State) (a0 : Array Value) (hw : ∀ d ∈ tables_1, d.before a0 Z = true) (ws : List Jvm.Cond) {w_n5 : Addr} {w_n10 : Addr} {w_OK : Addr} {w_n1 : Addr} {w_n2 : Addr} {w_n4 : Addr} {w_n9 : Addr} {w_n6 : Addr} {w_n0 : Addr} {w_n7 : Addr} {w_n8 : Addr} {w_n3 : Addr} {w_n11 : Addr} {k_n10 : ClassId} (W : Wd Z w_n5 w_n10 w_OK w_n1 w_n2 w_n4 w_n9 w_n6 w_n0 w_n7 w_n8 w_n3 w_n11 k_n10) (h0 : Heap) (n0 : Nat) (O0 : Old Z n0 h0) :
    MetFree l (⟨"com/example/usher/usher/wire/ErrorCodeForCodePinLaw", "pick", "(I)Lcom/example/usher/usher/wire/ErrorCode;"⟩ : MethodName) (head1 (Jvm.Cond.code (⟨"com/example/usher/usher/wire/ErrorCodeForCodePinLaw", "pick", "(I)Lcom/example/usher/usher/wire/ErrorCode;"⟩ : MethodName) method_3_code 1 (some (.object "com/example/usher/usher/wire/ErrorCode")) :: ws) ({ frames := 0, cells := 0, slots := 0, locals := 0 } : Room)) (fun a U => a = #[(.int (9 : Int32))] ∧ Z.Warmed39 U.vm ∧ U.heap = h0) (fun _ _ _ _ _ => True) (fun _ U o U' => ∃ v L, o = .returned v ∧ QP (some (.ref w_n8)) h0 n0 v U'.heap L ∧ FrameEnd U o U' L ({ frames := 0, cells := 0, slots := 0, locals := 0 } : Room).cells ({ frames := 0, cells := 0, slots := 0, locals := 0 } : Room).slots) := by
  have W' := W; obtain ⟨S_n5, E_n5, S_n10, S_OK, E_OK, S_n1, E_n1, S_n2, E_n2, S_n4, E_n4, S_n9, E_n9, S_n6, E_n6, S_n0, E_n0, S_n7, E_n7, S_n8, E_n8, S_n3, E_n3, S_n11, E_n11, F_OK_code, F_n5_code, F_n1_code, F_n2_code, F_n4_code, F_n9_code, F_n6_code, F_n0_code, F_n7_code, F_n8_code, F_n3_code, F_n11_value, V_n10⟩ := W'
  refine MetFree.of_bodySF (plainFor_of_name pn_1) hisR ?_
  intro p e s m args below meth c s₁ Bd hml0 hP hK
  obtain ⟨rfl, hZ, hh⟩ := hP
  have hx := Bd.exec
  have hby := Bd.bytes
  have hml : c.maxLocals = 1 := hml0
  have hown : s.vm.findClass "com/example/usher/usher/wire/ErrorCodeForCodePinLaw" = some m.cls := findClass_of_methodNamed Bd.named
  have hnm := (name_of_methodNamed Bd.named Bd.method).1
  have X0 : Stand p l e ({ frames := 0, cells := 0, slots := 0, locals := 0 } : Room) s m #[(.int (9 : Int32))] below meth c s₁ [] 0 0 := Stand.of_body Bd
  have e0 : s₁.heap = h0 := by rw [← hh, Bd.state]; rfl
  have N0 := Fr.nil n0
  have pre0 : ∀ t, Steps p.tables e below (s₁.setTop (mkF m 0 #[.val (.int (9 : Int32))] [])) t → Steps p.tables e below (s₁.setTop (entryFrame m #[(.int (9 : Int32))] 1)) t := fun t k => castTop (ef_1_6 m (9 : Int32)) k
  obtain ⟨T1, X1, e1, st1⟩ := getS2 X0 hx hZ hown (host := "") (Or.inl (hw _ (List.mem_of_getElem? (i := 73) rfl))) Via.refl e0 (S_n8.ext O0.2) (g := (mkF m 89 #[.val (.int (9 : Int32))] [])) rfl (hb hby d1_89)
  obtain ⟨fs, hr, hrun, hended, hW, hsame⟩ := X1.leave (v := some (.ref w_n8)) (fun h => by rw [Bd.returns] at h; cases h)
  refine ⟨_, _, pre0 _ ?_, hrun, hended, _, _, rfl, ?_, ⟨_, rfl⟩, hW, hsame.mono (by decide) (by decide)⟩
  · show Steps p.tables e below (s₁.setTop (mkF m 0 #[.val (.int (9 : Int32))] [])) _
    refine XS.iloadN X0.here hx rfl (hb hby d1_0) rfl ?_
    show Steps p.tables e below (s₁.setTop (mkF m 1 #[.val (.int (9 : Int32))] [(.int (9 : Int32))])) _
    refine XS.ifYes X0.here hx rfl (pc0 := 1) (pc' := 8) rfl (hb hby d1_1) rfl ((if0 _ _).trans (feq ((by decide) : ¬ ((9 : Int32) = (0 : Int32)))).2) (by decide) (by decide) ?_
    show Steps p.tables e below (s₁.setTop (mkF m 8 #[.val (.int (9 : Int32))] [])) _
    refine XS.iloadN X0.here hx rfl (hb hby d1_8) rfl ?_
    show Steps p.tables e below (s₁.setTop (mkF m 9 #[.val (.int (9 : Int32))] [(.int (9 : Int32))])) _
    refine XS.iconst X0.here hx rfl (hb hby d1_9) ?_
    show Steps p.tables e below (s₁.setTop (mkF m 10 #[.val (.int (9 : Int32))] [(.int (1 : Int32)), (.int (9 : Int32))])) _
    refine XS.icmpYes X0.here hx rfl (pc0 := 10) (pc' := 17) rfl (hb hby d1_10) rfl (feq ((by decide) : ¬ ((9 : Int32) = (1 : Int32)))).2 (by decide) (by decide) ?_
    show Steps p.tables e below (s₁.setTop (mkF m 17 #[.val (.int (9 : Int32))] [])) _
    refine XS.iloadN X0.here hx rfl (hb hby d1_17) rfl ?_
    show Steps p.tables e below (s₁.setTop (mkF m 18 #[.val (.int (9 : Int32))] [(.int (9 : Int32))])) _
    refine XS.iconst X0.here hx rfl (hb hby d1_18) ?_
    show Steps p.tables e below (s₁.setTop (mkF m 19 #[.val (.int (9 : Int32))] [(.int (2 : Int32)), (.int (9 : Int32))])) _
    refine XS.icmpYes X0.here hx rfl (pc0 := 19) (pc' := 26) rfl (hb hby d1_19) rfl (feq ((by decide) : ¬ ((9 : Int32) = (2 : Int32)))).2 (by decide) (by decide) ?_
    show Steps p.tables e below (s₁.setTop (mkF m 26 #[.val (.int (9 : Int32))] [])) _
    refine XS.iloadN X0.here hx rfl (hb hby d1_26) rfl ?_
    show Steps p.tables e below (s₁.setTop (mkF m 27 #[.val (.int (9 : Int32))] [(.int (9 : Int32))])) _
    refine XS.iconst X0.here hx rfl (hb hby d1_27) ?_
    show Steps p.tables e below (s₁.setTop (mkF m 28 #[.val (.int (9 : Int32))] [(.int (3 : Int32)), (.int (9 : Int32))])) _
    refine XS.icmpYes X0.here hx rfl (pc0 := 28) (pc' := 35) rfl (hb hby d1_28) rfl (feq ((by decide) : ¬ ((9 : Int32) = (3 : Int32)))).2 (by decide) (by decide) ?_
    show Steps p.tables e below (s₁.setTop (mkF m 35 #[.val (.int (9 : Int32))] [])) _
    refine XS.iloadN X0.here hx rfl (hb hby d1_35) rfl ?_
    show Steps p.tables e below (s₁.setTop (mkF m 36 #[.val (.int (9 : Int32))] [(.int (9 : Int32))])) _
    refine XS.iconst X0.here hx rfl (hb hby d1_36) ?_
    show Steps p.tables e below (s₁.setTop (mkF m 37 #[.val (.int (9 : Int32))] [(.int (4 : Int32)), (.int (9 : Int32))])) _
    refine XS.icmpYes X0.here hx rfl (pc0 := 37) (pc' := 44) rfl (hb hby d1_37) rfl (feq ((by decide) : ¬ ((9 : Int32) = (4 : Int32)))).2 (by decide) (by decide) ?_
    show Steps p.tables e below (s₁.setTop (mkF m 44 #[.val (.int (9 : Int32))] [])) _
    refine XS.iloadN X0.here hx rfl (hb hby d1_44) rfl ?_
    show Steps p.tables e below (s₁.setTop (mkF m 45 #[.val (.int (9 : Int32))] [(.int (9 : Int32))])) _
    refine XS.iconst X0.here hx rfl (hb hby d1_45) ?_
    show Steps p.tables e below (s₁.setTop (mkF m 46 #[.val (.int (9 : Int32))] [(.int (5 : Int32)), (.int (9 : Int32))])) _
    refine XS.icmpYes X0.here hx rfl (pc0 := 46) (pc' := 53) rfl (hb hby d1_46) rfl (feq ((by decide) : ¬ ((9 : Int32) = (5 : Int32)))).2 (by decide) (by decide) ?_
    show Steps p.tables e below (s₁.setTop (mkF m 53 #[.val (.int (9 : Int32))] [])) _
    refine XS.iloadN X0.here hx rfl (hb hby d1_53) rfl ?_
    show Steps p.tables e below (s₁.setTop (mkF m 54 #[.val (.int (9 : Int32))] [(.int (9 : Int32))])) _
    refine XS.bipush X0.here hx rfl (hb hby d1_54) ?_
    show Steps p.tables e below (s₁.setTop (mkF m 56 #[.val (.int (9 : Int32))] [(.int (6 : Int32)), (.int (9 : Int32))])) _
    refine XS.icmpYes X0.here hx rfl (pc0 := 56) (pc' := 63) rfl (hb hby d1_56) rfl (feq ((by decide) : ¬ ((9 : Int32) = (6 : Int32)))).2 (by decide) (by decide) ?_
    show Steps p.tables e below (s₁.setTop (mkF m 63 #[.val (.int (9 : Int32))] [])) _
    refine XS.iloadN X0.here hx rfl (hb hby d1_63) rfl ?_
    show Steps p.tables e below (s₁.setTop (mkF m 64 #[.val (.int (9 : Int32))] [(.int (9 : Int32))])) _
    refine XS.bipush X0.here hx rfl (hb hby d1_64) ?_
    show Steps p.tables e below (s₁.setTop (mkF m 66 #[.val (.int (9 : Int32))] [(.int (7 : Int32)), (.int (9 : Int32))])) _
    refine XS.icmpYes X0.here hx rfl (pc0 := 66) (pc' := 73) rfl (hb hby d1_66) rfl (feq ((by decide) : ¬ ((9 : Int32) = (7 : Int32)))).2 (by decide) (by decide) ?_
    show Steps p.tables e below (s₁.setTop (mkF m 73 #[.val (.int (9 : Int32))] [])) _
    refine XS.iloadN X0.here hx rfl (hb hby d1_73) rfl ?_
    show Steps p.tables e below (s₁.setTop (mkF m 74 #[.val (.int (9 : Int32))] [(.int (9 : Int32))])) _
    refine XS.bipush X0.here hx rfl (hb hby d1_74) ?_
    show Steps p.tables e below (s₁.setTop (mkF m 76 #[.val (.int (9 : Int32))] [(.int (8 : Int32)), (.int (9 : Int32))])) _
    refine XS.icmpYes X0.here hx rfl (pc0 := 76) (pc' := 83) rfl (hb hby d1_76) rfl (feq ((by decide) : ¬ ((9 : Int32) = (8 : Int32)))).2 (by decide) (by decide) ?_
    show Steps p.tables e below (s₁.setTop (mkF m 83 #[.val (.int (9 : Int32))] [])) _
    refine XS.iloadN X0.here hx rfl (hb hby d1_83) rfl ?_
    show Steps p.tables e below (s₁.setTop (mkF m 84 #[.val (.int (9 : Int32))] [(.int (9 : Int32))])) _
    refine XS.bipush X0.here hx rfl (hb hby d1_84) ?_
    show Steps p.tables e below (s₁.setTop (mkF m 86 #[.val (.int (9 : Int32))] [(.int (9 : Int32)), (.int (9 : Int32))])) _
    refine XS.icmpNo X0.here hx rfl (hb hby d1_86) rfl (teq ((by decide) : (9 : Int32) = (9 : Int32))).2 ?_
    show Steps p.tables e below (s₁.setTop (mkF m 89 #[.val (.int (9 : Int32))] [])) _
    refine st1 _ ?_
    show Steps p.tables e below (T1.setTop (mkF m 92 #[.val (.int (9 : Int32))] [(.ref w_n8)])) _
    jvm_step X1.here [X1.here.top, hx, (hb hby d1_92), X1.method', Bd.returns, Value.isRef, FieldType.isReference]
    first | (intro acts; rw [hr _ acts rfl rfl rfl]) | rw [hr _ _ rfl rfl rfl]
    exact Steps.refl _
  · show QP (some (.ref w_n8)) h0 n0 _ T1.heap _
    rw [e1]
    exact ⟨rfl, N0, rfl⟩
set_option maxRecDepth 65536 in
set_option maxHeartbeats 40000000 in
theorem rm_fc10 (l : Launch) (Z : State) (a0 : Array Value) (hw : ∀ d ∈ tables_1, d.before a0 Z = true) (ws : List Jvm.Cond) {w_n5 : Addr} {w_n10 : Addr} {w_OK : Addr} {w_n1 : Addr} {w_n2 : Addr} {w_n4 : Addr} {w_n9 : Addr} {w_n6 : Addr} {w_n0 : Addr} {w_n7 : Addr} {w_n8 : Addr} {w_n3 : Addr} {w_n11 : Addr} {k_n10 : ClassId} (W : Wd Z w_n5 w_n10 w_OK w_n1 w_n2 w_n4 w_n9 w_n6 w_n0 w_n7 w_n8 w_n3 w_n11 k_n10) (h0 : Heap) (n0 : Nat) (O0 : Old Z n0 h0) :
    MetFree l (⟨"com/example/usher/usher/wire/ErrorCode", "forCode", "(I)Ljava/util/Optional;"⟩ : MethodName) (head1 (Jvm.Cond.code (⟨"com/example/usher/usher/wire/ErrorCode", "forCode", "(I)Ljava/util/Optional;"⟩ : MethodName) prog_14_method_5_code 5 (some (.object "java/util/Optional")) :: ws) ({ frames := 3, cells := 1, slots := 1, locals := 38 } : Room)) (fun a U => a = #[(.int (-112 : Int32))] ∧ Z.Warmed39 U.vm ∧ U.heap = h0) (fun _ _ _ _ _ => True) (fun _ U o U' => ∃ v L, o = .returned v ∧ QW (fun v h => ∃ b25_b1 : Addr, v = some (.ref b25_b1) ∧ Keep h0 h [] ∧ n0 ≤ b25_b1 ∧ h0.size ≤ b25_b1 ∧ Exa Z h b25_b1 "java/util/Optional" ∧ Fld Z h b25_b1 "java/util/Optional" "value" "Ljava/lang/Object;" (.ref w_n3)) n0 v U'.heap L ∧ FrameEnd U o U' L ({ frames := 3, cells := 1, slots := 1, locals := 38 } : Room).cells ({ frames := 3, cells := 1, slots := 1, locals := 38 } : Room).slots) := by
  have W' := W; obtain ⟨S_n5, E_n5, S_n10, S_OK, E_OK, S_n1, E_n1, S_n2, E_n2, S_n4, E_n4, S_n9, E_n9, S_n6, E_n6, S_n0, E_n0, S_n7, E_n7, S_n8, E_n8, S_n3, E_n3, S_n11, E_n11, F_OK_code, F_n5_code, F_n1_code, F_n2_code, F_n4_code, F_n9_code, F_n6_code, F_n0_code, F_n7_code, F_n8_code, F_n3_code, F_n11_value, V_n10⟩ := W'
  refine MetFree.of_bodySF (plainFor_of_name pn_2) hisR ?_
  intro p e s m args below meth c s₁ Bd hml0 hP hK
  obtain ⟨rfl, hZ, hh⟩ := hP
  have hx := Bd.exec
  have hby := Bd.bytes
  have hml : c.maxLocals = 5 := hml0
  have hown : s.vm.findClass "com/example/usher/usher/wire/ErrorCode" = some m.cls := findClass_of_methodNamed Bd.named
  have hnm := (name_of_methodNamed Bd.named Bd.method).1
  have X0 : Stand p l e ({ frames := 3, cells := 1, slots := 1, locals := 38 } : Room) s m #[(.int (-112 : Int32))] below meth c s₁ [] 0 0 := Stand.of_body Bd
  have e0 : s₁.heap = h0 := by rw [← hh, Bd.state]; rfl
  have N0 := Fr.nil n0
  have pre0 : ∀ t, Steps p.tables e below (s₁.setTop (mkF m 0 #[.val (.int (-112 : Int32)), .unset, .unset, .unset, .unset] [])) t → Steps p.tables e below (s₁.setTop (entryFrame m #[(.int (-112 : Int32))] 5)) t := fun t k => castTop (ef_2_4 m (-112 : Int32)) k
  obtain ⟨T1, X1, e1, st1⟩ := getS2 X0 hx hZ hown (host := "") (Or.inl (hw _ (List.mem_of_getElem? (i := 11) rfl))) Via.refl e0 (S_n10.ext O0.2) (g := (mkF m 0 #[.val (.int (-112 : Int32)), .unset, .unset, .unset, .unset] [])) rfl (hb hby d2_0)
  obtain ⟨cl2, Ar2, qk2, Sz2, Nz2, Hs2, Gs2⟩ := id (V_n10.ext O0.2)
  obtain ⟨cl3, Ar3, qk3, Sz3, Nz3, Hs3, Gs3⟩ := id (V_n10.ext O0.2)
  have hin3 : ¬ ((0 : Int32) < 0 ∨ cl3.slots.size ≤ ((0 : Int32)).toNatClampNeg) := inb_of Sz3 ⟨by decide, by decide⟩
  have hat3 : cl3.slots[((0 : Int32)).toNatClampNeg]? = some (.ref w_OK) := Has.at Hs3 hin3 rfl
  obtain ⟨T4, X4, e4, st4⟩ := getF X1 hx hZ hown (host := "") (Or.inl (hw _ (List.mem_of_getElem? (i := 14) rfl))) Via.refl e1 (F_OK_code.ext O0.2) (g := (mkF m 21 #[.val (.int (-112 : Int32)), .val (.ref w_n10), .val (.int (11 : Int32)), .val (.int (0 : Int32)), .val (.ref w_OK)] [(.ref w_OK)])) rfl rfl (hb hby d2_21)
  obtain ⟨cl5, Ar5, qk5, Sz5, Nz5, Hs5, Gs5⟩ := id (V_n10.ext O0.2)
  have hin5 : ¬ ((1 : Int32) < 0 ∨ cl5.slots.size ≤ ((1 : Int32)).toNatClampNeg) := inb_of Sz5 ⟨by decide, by decide⟩
  have hat5 : cl5.slots[((1 : Int32)).toNatClampNeg]? = some (.ref w_n1) := Has.at Hs5 hin5 rfl
  obtain ⟨T6, X6, e6, st6⟩ := getF X4 hx hZ hown (host := "") (Or.inl (hw _ (List.mem_of_getElem? (i := 14) rfl))) Via.refl e4 (F_n1_code.ext O0.2) (g := (mkF m 21 #[.val (.int (-112 : Int32)), .val (.ref w_n10), .val (.int (11 : Int32)), .val (.int (1 : Int32)), .val (.ref w_n1)] [(.ref w_n1)])) rfl rfl (hb hby d2_21)
  obtain ⟨cl7, Ar7, qk7, Sz7, Nz7, Hs7, Gs7⟩ := id (V_n10.ext O0.2)
  have hin7 : ¬ ((2 : Int32) < 0 ∨ cl7.slots.size ≤ ((2 : Int32)).toNatClampNeg) := inb_of Sz7 ⟨by decide, by decide⟩
  have hat7 : cl7.slots[((2 : Int32)).toNatClampNeg]? = some (.ref w_n2) := Has.at Hs7 hin7 rfl
  obtain ⟨T8, X8, e8, st8⟩ := getF X6 hx hZ hown (host := "") (Or.inl (hw _ (List.mem_of_getElem? (i := 14) rfl))) Via.refl e6 (F_n2_code.ext O0.2) (g := (mkF m 21 #[.val (.int (-112 : Int32)), .val (.ref w_n10), .val (.int (11 : Int32)), .val (.int (2 : Int32)), .val (.ref w_n2)] [(.ref w_n2)])) rfl rfl (hb hby d2_21)
  obtain ⟨cl9, Ar9, qk9, Sz9, Nz9, Hs9, Gs9⟩ := id (V_n10.ext O0.2)
  have hin9 : ¬ ((3 : Int32) < 0 ∨ cl9.slots.size ≤ ((3 : Int32)).toNatClampNeg) := inb_of Sz9 ⟨by decide, by decide⟩
  have hat9 : cl9.slots[((3 : Int32)).toNatClampNeg]? = some (.ref w_n5) := Has.at Hs9 hin9 rfl
  obtain ⟨T10, X10, e10, st10⟩ := getF X8 hx hZ hown (host := "") (Or.inl (hw _ (List.mem_of_getElem? (i := 14) rfl))) Via.refl e8 (F_n5_code.ext O0.2) (g := (mkF m 21 #[.val (.int (-112 : Int32)), .val (.ref w_n10), .val (.int (11 : Int32)), .val (.int (3 : Int32)), .val (.ref w_n5)] [(.ref w_n5)])) rfl rfl (hb hby d2_21)
  obtain ⟨cl11, Ar11, qk11, Sz11, Nz11, Hs11, Gs11⟩ := id (V_n10.ext O0.2)
  have hin11 : ¬ ((4 : Int32) < 0 ∨ cl11.slots.size ≤ ((4 : Int32)).toNatClampNeg) := inb_of Sz11 ⟨by decide, by decide⟩
  have hat11 : cl11.slots[((4 : Int32)).toNatClampNeg]? = some (.ref w_n4) := Has.at Hs11 hin11 rfl
  obtain ⟨T12, X12, e12, st12⟩ := getF X10 hx hZ hown (host := "") (Or.inl (hw _ (List.mem_of_getElem? (i := 14) rfl))) Via.refl e10 (F_n4_code.ext O0.2) (g := (mkF m 21 #[.val (.int (-112 : Int32)), .val (.ref w_n10), .val (.int (11 : Int32)), .val (.int (4 : Int32)), .val (.ref w_n4)] [(.ref w_n4)])) rfl rfl (hb hby d2_21)
  obtain ⟨cl13, Ar13, qk13, Sz13, Nz13, Hs13, Gs13⟩ := id (V_n10.ext O0.2)
  have hin13 : ¬ ((5 : Int32) < 0 ∨ cl13.slots.size ≤ ((5 : Int32)).toNatClampNeg) := inb_of Sz13 ⟨by decide, by decide⟩
  have hat13 : cl13.slots[((5 : Int32)).toNatClampNeg]? = some (.ref w_n9) := Has.at Hs13 hin13 rfl
  obtain ⟨T14, X14, e14, st14⟩ := getF X12 hx hZ hown (host := "") (Or.inl (hw _ (List.mem_of_getElem? (i := 14) rfl))) Via.refl e12 (F_n9_code.ext O0.2) (g := (mkF m 21 #[.val (.int (-112 : Int32)), .val (.ref w_n10), .val (.int (11 : Int32)), .val (.int (5 : Int32)), .val (.ref w_n9)] [(.ref w_n9)])) rfl rfl (hb hby d2_21)
  obtain ⟨cl15, Ar15, qk15, Sz15, Nz15, Hs15, Gs15⟩ := id (V_n10.ext O0.2)
  have hin15 : ¬ ((6 : Int32) < 0 ∨ cl15.slots.size ≤ ((6 : Int32)).toNatClampNeg) := inb_of Sz15 ⟨by decide, by decide⟩
  have hat15 : cl15.slots[((6 : Int32)).toNatClampNeg]? = some (.ref w_n6) := Has.at Hs15 hin15 rfl
  obtain ⟨T16, X16, e16, st16⟩ := getF X14 hx hZ hown (host := "") (Or.inl (hw _ (List.mem_of_getElem? (i := 14) rfl))) Via.refl e14 (F_n6_code.ext O0.2) (g := (mkF m 21 #[.val (.int (-112 : Int32)), .val (.ref w_n10), .val (.int (11 : Int32)), .val (.int (6 : Int32)), .val (.ref w_n6)] [(.ref w_n6)])) rfl rfl (hb hby d2_21)
  obtain ⟨cl17, Ar17, qk17, Sz17, Nz17, Hs17, Gs17⟩ := id (V_n10.ext O0.2)
  have hin17 : ¬ ((7 : Int32) < 0 ∨ cl17.slots.size ≤ ((7 : Int32)).toNatClampNeg) := inb_of Sz17 ⟨by decide, by decide⟩
  have hat17 : cl17.slots[((7 : Int32)).toNatClampNeg]? = some (.ref w_n0) := Has.at Hs17 hin17 rfl
  obtain ⟨T18, X18, e18, st18⟩ := getF X16 hx hZ hown (host := "") (Or.inl (hw _ (List.mem_of_getElem? (i := 14) rfl))) Via.refl e16 (F_n0_code.ext O0.2) (g := (mkF m 21 #[.val (.int (-112 : Int32)), .val (.ref w_n10), .val (.int (11 : Int32)), .val (.int (7 : Int32)), .val (.ref w_n0)] [(.ref w_n0)])) rfl rfl (hb hby d2_21)
  obtain ⟨cl19, Ar19, qk19, Sz19, Nz19, Hs19, Gs19⟩ := id (V_n10.ext O0.2)
  have hin19 : ¬ ((8 : Int32) < 0 ∨ cl19.slots.size ≤ ((8 : Int32)).toNatClampNeg) := inb_of Sz19 ⟨by decide, by decide⟩
  have hat19 : cl19.slots[((8 : Int32)).toNatClampNeg]? = some (.ref w_n7) := Has.at Hs19 hin19 rfl
  obtain ⟨T20, X20, e20, st20⟩ := getF X18 hx hZ hown (host := "") (Or.inl (hw _ (List.mem_of_getElem? (i := 14) rfl))) Via.refl e18 (F_n7_code.ext O0.2) (g := (mkF m 21 #[.val (.int (-112 : Int32)), .val (.ref w_n10), .val (.int (11 : Int32)), .val (.int (8 : Int32)), .val (.ref w_n7)] [(.ref w_n7)])) rfl rfl (hb hby d2_21)
  obtain ⟨cl21, Ar21, qk21, Sz21, Nz21, Hs21, Gs21⟩ := id (V_n10.ext O0.2)
  have hin21 : ¬ ((9 : Int32) < 0 ∨ cl21.slots.size ≤ ((9 : Int32)).toNatClampNeg) := inb_of Sz21 ⟨by decide, by decide⟩
  have hat21 : cl21.slots[((9 : Int32)).toNatClampNeg]? = some (.ref w_n8) := Has.at Hs21 hin21 rfl
  obtain ⟨T22, X22, e22, st22⟩ := getF X20 hx hZ hown (host := "") (Or.inl (hw _ (List.mem_of_getElem? (i := 14) rfl))) Via.refl e20 (F_n8_code.ext O0.2) (g := (mkF m 21 #[.val (.int (-112 : Int32)), .val (.ref w_n10), .val (.int (11 : Int32)), .val (.int (9 : Int32)), .val (.ref w_n8)] [(.ref w_n8)])) rfl rfl (hb hby d2_21)
  obtain ⟨cl23, Ar23, qk23, Sz23, Nz23, Hs23, Gs23⟩ := id (V_n10.ext O0.2)
  have hin23 : ¬ ((10 : Int32) < 0 ∨ cl23.slots.size ≤ ((10 : Int32)).toNatClampNeg) := inb_of Sz23 ⟨by decide, by decide⟩
  have hat23 : cl23.slots[((10 : Int32)).toNatClampNeg]? = some (.ref w_n3) := Has.at Hs23 hin23 rfl
  obtain ⟨T24, X24, e24, st24⟩ := getF X22 hx hZ hown (host := "") (Or.inl (hw _ (List.mem_of_getElem? (i := 14) rfl))) Via.refl e22 (F_n3_code.ext O0.2) (g := (mkF m 21 #[.val (.int (-112 : Int32)), .val (.ref w_n10), .val (.int (11 : Int32)), .val (.int (10 : Int32)), .val (.ref w_n3)] [(.ref w_n3)])) rfl rfl (hb hby d2_21)
  obtain ⟨_, _, ⟨T25, L25, k25, n25⟩, -, X25, ⟨Lc25, hQ25, l25, y25, z25⟩, st25⟩ := Jvm.LawKit.callS X24 hx (y := (⟨"java/util/Optional", "of", "(Ljava/lang/Object;)Ljava/util/Optional;"⟩ : MethodName)) hown (mvT hZ (hw _ (List.mem_of_getElem? (i := 16) rfl))) (mvT hZ (hw _ (List.mem_of_getElem? (i := 17) rfl))) (mvT hZ (hw _ (List.mem_of_getElem? (i := 18) rfl))) (mvT hZ (hw _ (List.mem_of_getElem? (i := 19) rfl))) (by decide) (backOf (W := 0) (rm_of l Z a0 hw [] W w_n3 h0 n0 O0 ) hZ (hw _ (List.mem_of_getElem? (i := 19) rfl)) (hw _ (List.mem_of_getElem? (i := 18) rfl)) (by decide) (by decide)) (g := (mkF m 30 #[.val (.int (-112 : Int32)), .val (.ref w_n10), .val (.int (11 : Int32)), .val (.int (10 : Int32)), .val (.ref w_n3)] [(.ref w_n3)])) rfl (by rw [hml]; rfl) (argsL := [(.ref w_n3)]) (rest := []) (lenOf pd_2 rfl) rfl (by show 2 * 0 + _ ≤ _; exact Nat.le_of_eq rfl) (hb hby d2_30) (fun _ _ => ⟨rfl, e24, (by decide : 0 + 1 ≤ _), (by decide : 0 + 1 ≤ _)⟩)
  dsimp only [Pt.U, Pt.locs, Pt.cells, Pt.slots] at X25 l25 y25 z25 st25 hQ25
  subst l25 y25 z25
  obtain ⟨N25q, hP25⟩ := hQ25
  have N25 := Fr.app N0 N25q
  obtain ⟨b25_b1, rfl, Kp25, g_b25_b1, si_b25_b1, fp25_0, fp25_1⟩ := hP25
  have O25 := O0.keep Kp25 all0
  have sz_b25_b1 : h0.size ≤ b25_b1 := Nat.le_trans ((Keep.refl h0 [])).1 si_b25_b1
  have K25 : Keep h0 T25.heap [] := (Keep.refl h0 []).trans Kp25 all0
  obtain ⟨fs, hr, hrun, hended, hW, hsame⟩ := X25.leave (v := some (.ref b25_b1)) (fun h => by rw [Bd.returns] at h; cases h)
  refine ⟨_, _, pre0 _ ?_, hrun, hended, _, _, rfl, ?_, ⟨_, rfl⟩, hW, hsame.mono (by decide) (by decide)⟩
  · show Steps p.tables e below (s₁.setTop (mkF m 0 #[.val (.int (-112 : Int32)), .unset, .unset, .unset, .unset] [])) _
    refine st1 _ ?_
    show Steps p.tables e below (T1.setTop (mkF m 3 #[.val (.int (-112 : Int32)), .unset, .unset, .unset, .unset] [(.ref w_n10)])) _
    refine XS.astoreN X1.here hx rfl (hb hby d2_3) rfl rfl (l' := #[.val (.int (-112 : Int32)), .val (.ref w_n10), .unset, .unset, .unset]) rfl ?_
    show Steps p.tables e below (T1.setTop (mkF m 4 #[.val (.int (-112 : Int32)), .val (.ref w_n10), .unset, .unset, .unset] [])) _
    refine XS.aloadN X1.here hx rfl (hb hby d2_4) rfl rfl ?_
    show Steps p.tables e below (T1.setTop (mkF m 5 #[.val (.int (-112 : Int32)), .val (.ref w_n10), .unset, .unset, .unset] [(.ref w_n10)])) _
    refine X1.arraylength hx (by rw [e1]; exact Ar2.1) (State.isArrayOf_alike hZ.alike Ar2.2.1) (g := (mkF m 5 #[.val (.int (-112 : Int32)), .val (.ref w_n10), .unset, .unset, .unset] [(.ref w_n10)])) rfl rfl (hb hby d2_5) _ ?_
    rw [len_of Sz2 Nz2]
    show Steps p.tables e below (T1.setTop (mkF m 6 #[.val (.int (-112 : Int32)), .val (.ref w_n10), .unset, .unset, .unset] [(.int (11 : Int32))])) _
    refine XS.istoreN X1.here hx rfl (hb hby d2_6) rfl (l' := #[.val (.int (-112 : Int32)), .val (.ref w_n10), .val (.int (11 : Int32)), .unset, .unset]) rfl ?_
    show Steps p.tables e below (T1.setTop (mkF m 7 #[.val (.int (-112 : Int32)), .val (.ref w_n10), .val (.int (11 : Int32)), .unset, .unset] [])) _
    refine XS.iconst X1.here hx rfl (hb hby d2_7) ?_
    show Steps p.tables e below (T1.setTop (mkF m 8 #[.val (.int (-112 : Int32)), .val (.ref w_n10), .val (.int (11 : Int32)), .unset, .unset] [(.int (0 : Int32))])) _
    refine XS.istoreN X1.here hx rfl (hb hby d2_8) rfl (l' := #[.val (.int (-112 : Int32)), .val (.ref w_n10), .val (.int (11 : Int32)), .val (.int (0 : Int32)), .unset]) rfl ?_
    show Steps p.tables e below (T1.setTop (mkF m 9 #[.val (.int (-112 : Int32)), .val (.ref w_n10), .val (.int (11 : Int32)), .val (.int (0 : Int32)), .unset] [])) _
    refine XS.iloadN X1.here hx rfl (hb hby d2_9) rfl ?_
    show Steps p.tables e below (T1.setTop (mkF m 10 #[.val (.int (-112 : Int32)), .val (.ref w_n10), .val (.int (11 : Int32)), .val (.int (0 : Int32)), .unset] [(.int (0 : Int32))])) _
    refine XS.iloadN X1.here hx rfl (hb hby d2_10) rfl ?_
    show Steps p.tables e below (T1.setTop (mkF m 11 #[.val (.int (-112 : Int32)), .val (.ref w_n10), .val (.int (11 : Int32)), .val (.int (0 : Int32)), .unset] [(.int (11 : Int32)), (.int (0 : Int32))])) _
    refine XS.icmpNo X1.here hx rfl (hb hby d2_11) rfl (tlt ((by decide) : (0 : Int32) < (11 : Int32))).2.1 ?_
    show Steps p.tables e below (T1.setTop (mkF m 14 #[.val (.int (-112 : Int32)), .val (.ref w_n10), .val (.int (11 : Int32)), .val (.int (0 : Int32)), .unset] [])) _
    refine XS.aloadN X1.here hx rfl (hb hby d2_14) rfl rfl ?_
    show Steps p.tables e below (T1.setTop (mkF m 15 #[.val (.int (-112 : Int32)), .val (.ref w_n10), .val (.int (11 : Int32)), .val (.int (0 : Int32)), .unset] [(.ref w_n10)])) _
    refine XS.iloadN X1.here hx rfl (hb hby d2_15) rfl ?_
    show Steps p.tables e below (T1.setTop (mkF m 16 #[.val (.int (-112 : Int32)), .val (.ref w_n10), .val (.int (11 : Int32)), .val (.int (0 : Int32)), .unset] [(.int (0 : Int32)), (.ref w_n10)])) _
    refine X1.aaload hx (j := (0 : Int32)) (v := (.ref w_OK)) (by rw [e1]; exact Ar3.1) (State.isArrayOf_alike hZ.alike Ar3.2.1) rfl Ar3.2.2 hin3 hat3 (g := (mkF m 16 #[.val (.int (-112 : Int32)), .val (.ref w_n10), .val (.int (11 : Int32)), .val (.int (0 : Int32)), .unset] [(.int (0 : Int32)), (.ref w_n10)])) rfl rfl (hb hby d2_16) _ ?_
    show Steps p.tables e below (T1.setTop (mkF m 17 #[.val (.int (-112 : Int32)), .val (.ref w_n10), .val (.int (11 : Int32)), .val (.int (0 : Int32)), .unset] [(.ref w_OK)])) _
    refine XS.astore X1.here hx rfl (hb hby d2_17) rfl rfl (l' := #[.val (.int (-112 : Int32)), .val (.ref w_n10), .val (.int (11 : Int32)), .val (.int (0 : Int32)), .val (.ref w_OK)]) rfl ?_
    show Steps p.tables e below (T1.setTop (mkF m 19 #[.val (.int (-112 : Int32)), .val (.ref w_n10), .val (.int (11 : Int32)), .val (.int (0 : Int32)), .val (.ref w_OK)] [])) _
    refine XS.aload X1.here hx rfl (hb hby d2_19) rfl rfl ?_
    show Steps p.tables e below (T1.setTop (mkF m 21 #[.val (.int (-112 : Int32)), .val (.ref w_n10), .val (.int (11 : Int32)), .val (.int (0 : Int32)), .val (.ref w_OK)] [(.ref w_OK)])) _
    refine st4 _ ?_
    show Steps p.tables e below (T4.setTop (mkF m 24 #[.val (.int (-112 : Int32)), .val (.ref w_n10), .val (.int (11 : Int32)), .val (.int (0 : Int32)), .val (.ref w_OK)] [(.int (0 : Int32))])) _
    refine XS.iloadN X4.here hx rfl (hb hby d2_24) rfl ?_
    show Steps p.tables e below (T4.setTop (mkF m 25 #[.val (.int (-112 : Int32)), .val (.ref w_n10), .val (.int (11 : Int32)), .val (.int (0 : Int32)), .val (.ref w_OK)] [(.int (-112 : Int32)), (.int (0 : Int32))])) _
    refine XS.icmpYes X4.here hx rfl (pc0 := 25) (pc' := 34) rfl (hb hby d2_25) rfl (feq ((by decide) : ¬ ((0 : Int32) = (-112 : Int32)))).2 (by decide) (by decide) ?_
    show Steps p.tables e below (T4.setTop (mkF m 34 #[.val (.int (-112 : Int32)), .val (.ref w_n10), .val (.int (11 : Int32)), .val (.int (0 : Int32)), .val (.ref w_OK)] [])) _
    refine XS.iinc X4.here hx rfl (hb hby d2_34) rfl (l' := #[.val (.int (-112 : Int32)), .val (.ref w_n10), .val (.int (11 : Int32)), .val (.int ((0 : Int32) + (1 : Int32))), .val (.ref w_OK)]) rfl ?_
    show Steps p.tables e below (T4.setTop (mkF m 37 #[.val (.int (-112 : Int32)), .val (.ref w_n10), .val (.int (11 : Int32)), .val (.int ((0 : Int32) + (1 : Int32))), .val (.ref w_OK)] [])) _
    rw [show ((0 : Int32) + (1 : Int32)) = (1 : Int32) from by decide]
    show Steps p.tables e below (T4.setTop (mkF m 37 #[.val (.int (-112 : Int32)), .val (.ref w_n10), .val (.int (11 : Int32)), .val (.int (1 : Int32)), .val (.ref w_OK)] [])) _
    refine XS.goto X4.here hx rfl (pc0 := 37) (pc' := 9) rfl (hb hby d2_37) (by decide) (by decide) ?_
    show Steps p.tables e below (T4.setTop (mkF m 9 #[.val (.int (-112 : Int32)), .val (.ref w_n10), .val (.int (11 : Int32)), .val (.int (1 : Int32)), .val (.ref w_OK)] [])) _
    refine XS.iloadN X4.here hx rfl (hb hby d2_9) rfl ?_
    show Steps p.tables e below (T4.setTop (mkF m 10 #[.val (.int (-112 : Int32)), .val (.ref w_n10), .val (.int (11 : Int32)), .val (.int (1 : Int32)), .val (.ref w_OK)] [(.int (1 : Int32))])) _
    refine XS.iloadN X4.here hx rfl (hb hby d2_10) rfl ?_
    show Steps p.tables e below (T4.setTop (mkF m 11 #[.val (.int (-112 : Int32)), .val (.ref w_n10), .val (.int (11 : Int32)), .val (.int (1 : Int32)), .val (.ref w_OK)] [(.int (11 : Int32)), (.int (1 : Int32))])) _
    refine XS.icmpNo X4.here hx rfl (hb hby d2_11) rfl (tlt ((by decide) : (1 : Int32) < (11 : Int32))).2.1 ?_
    show Steps p.tables e below (T4.setTop (mkF m 14 #[.val (.int (-112 : Int32)), .val (.ref w_n10), .val (.int (11 : Int32)), .val (.int (1 : Int32)), .val (.ref w_OK)] [])) _
    refine XS.aloadN X4.here hx rfl (hb hby d2_14) rfl rfl ?_
    show Steps p.tables e below (T4.setTop (mkF m 15 #[.val (.int (-112 : Int32)), .val (.ref w_n10), .val (.int (11 : Int32)), .val (.int (1 : Int32)), .val (.ref w_OK)] [(.ref w_n10)])) _
    refine XS.iloadN X4.here hx rfl (hb hby d2_15) rfl ?_
    show Steps p.tables e below (T4.setTop (mkF m 16 #[.val (.int (-112 : Int32)), .val (.ref w_n10), .val (.int (11 : Int32)), .val (.int (1 : Int32)), .val (.ref w_OK)] [(.int (1 : Int32)), (.ref w_n10)])) _
    refine X4.aaload hx (j := (1 : Int32)) (v := (.ref w_n1)) (by rw [e4]; exact Ar5.1) (State.isArrayOf_alike hZ.alike Ar5.2.1) rfl Ar5.2.2 hin5 hat5 (g := (mkF m 16 #[.val (.int (-112 : Int32)), .val (.ref w_n10), .val (.int (11 : Int32)), .val (.int (1 : Int32)), .val (.ref w_OK)] [(.int (1 : Int32)), (.ref w_n10)])) rfl rfl (hb hby d2_16) _ ?_
    show Steps p.tables e below (T4.setTop (mkF m 17 #[.val (.int (-112 : Int32)), .val (.ref w_n10), .val (.int (11 : Int32)), .val (.int (1 : Int32)), .val (.ref w_OK)] [(.ref w_n1)])) _
    refine XS.astore X4.here hx rfl (hb hby d2_17) rfl rfl (l' := #[.val (.int (-112 : Int32)), .val (.ref w_n10), .val (.int (11 : Int32)), .val (.int (1 : Int32)), .val (.ref w_n1)]) rfl ?_
    show Steps p.tables e below (T4.setTop (mkF m 19 #[.val (.int (-112 : Int32)), .val (.ref w_n10), .val (.int (11 : Int32)), .val (.int (1 : Int32)), .val (.ref w_n1)] [])) _
    refine XS.aload X4.here hx rfl (hb hby d2_19) rfl rfl ?_
    show Steps p.tables e below (T4.setTop (mkF m 21 #[.val (.int (-112 : Int32)), .val (.ref w_n10), .val (.int (11 : Int32)), .val (.int (1 : Int32)), .val (.ref w_n1)] [(.ref w_n1)])) _
    refine st6 _ ?_
    show Steps p.tables e below (T6.setTop (mkF m 24 #[.val (.int (-112 : Int32)), .val (.ref w_n10), .val (.int (11 : Int32)), .val (.int (1 : Int32)), .val (.ref w_n1)] [(.int (-2 : Int32))])) _
    refine XS.iloadN X6.here hx rfl (hb hby d2_24) rfl ?_
    show Steps p.tables e below (T6.setTop (mkF m 25 #[.val (.int (-112 : Int32)), .val (.ref w_n10), .val (.int (11 : Int32)), .val (.int (1 : Int32)), .val (.ref w_n1)] [(.int (-112 : Int32)), (.int (-2 : Int32))])) _
    refine XS.icmpYes X6.here hx rfl (pc0 := 25) (pc' := 34) rfl (hb hby d2_25) rfl (feq ((by decide) : ¬ ((-2 : Int32) = (-112 : Int32)))).2 (by decide) (by decide) ?_
    show Steps p.tables e below (T6.setTop (mkF m 34 #[.val (.int (-112 : Int32)), .val (.ref w_n10), .val (.int (11 : Int32)), .val (.int (1 : Int32)), .val (.ref w_n1)] [])) _
    refine XS.iinc X6.here hx rfl (hb hby d2_34) rfl (l' := #[.val (.int (-112 : Int32)), .val (.ref w_n10), .val (.int (11 : Int32)), .val (.int ((1 : Int32) + (1 : Int32))), .val (.ref w_n1)]) rfl ?_
    show Steps p.tables e below (T6.setTop (mkF m 37 #[.val (.int (-112 : Int32)), .val (.ref w_n10), .val (.int (11 : Int32)), .val (.int ((1 : Int32) + (1 : Int32))), .val (.ref w_n1)] [])) _
    rw [show ((1 : Int32) + (1 : Int32)) = (2 : Int32) from by decide]
    show Steps p.tables e below (T6.setTop (mkF m 37 #[.val (.int (-112 : Int32)), .val (.ref w_n10), .val (.int (11 : Int32)), .val (.int (2 : Int32)), .val (.ref w_n1)] [])) _
    refine XS.goto X6.here hx rfl (pc0 := 37) (pc' := 9) rfl (hb hby d2_37) (by decide) (by decide) ?_
    show Steps p.tables e below (T6.setTop (mkF m 9 #[.val (.int (-112 : Int32)), .val (.ref w_n10), .val (.int (11 : Int32)), .val (.int (2 : Int32)), .val (.ref w_n1)] [])) _
    refine XS.iloadN X6.here hx rfl (hb hby d2_9) rfl ?_
    show Steps p.tables e below (T6.setTop (mkF m 10 #[.val (.int (-112 : Int32)), .val (.ref w_n10), .val (.int (11 : Int32)), .val (.int (2 : Int32)), .val (.ref w_n1)] [(.int (2 : Int32))])) _
    refine XS.iloadN X6.here hx rfl (hb hby d2_10) rfl ?_
    show Steps p.tables e below (T6.setTop (mkF m 11 #[.val (.int (-112 : Int32)), .val (.ref w_n10), .val (.int (11 : Int32)), .val (.int (2 : Int32)), .val (.ref w_n1)] [(.int (11 : Int32)), (.int (2 : Int32))])) _
    refine XS.icmpNo X6.here hx rfl (hb hby d2_11) rfl (tlt ((by decide) : (2 : Int32) < (11 : Int32))).2.1 ?_
    show Steps p.tables e below (T6.setTop (mkF m 14 #[.val (.int (-112 : Int32)), .val (.ref w_n10), .val (.int (11 : Int32)), .val (.int (2 : Int32)), .val (.ref w_n1)] [])) _
    refine XS.aloadN X6.here hx rfl (hb hby d2_14) rfl rfl ?_
    show Steps p.tables e below (T6.setTop (mkF m 15 #[.val (.int (-112 : Int32)), .val (.ref w_n10), .val (.int (11 : Int32)), .val (.int (2 : Int32)), .val (.ref w_n1)] [(.ref w_n10)])) _
    refine XS.iloadN X6.here hx rfl (hb hby d2_15) rfl ?_
    show Steps p.tables e below (T6.setTop (mkF m 16 #[.val (.int (-112 : Int32)), .val (.ref w_n10), .val (.int (11 : Int32)), .val (.int (2 : Int32)), .val (.ref w_n1)] [(.int (2 : Int32)), (.ref w_n10)])) _
    refine X6.aaload hx (j := (2 : Int32)) (v := (.ref w_n2)) (by rw [e6]; exact Ar7.1) (State.isArrayOf_alike hZ.alike Ar7.2.1) rfl Ar7.2.2 hin7 hat7 (g := (mkF m 16 #[.val (.int (-112 : Int32)), .val (.ref w_n10), .val (.int (11 : Int32)), .val (.int (2 : Int32)), .val (.ref w_n1)] [(.int (2 : Int32)), (.ref w_n10)])) rfl rfl (hb hby d2_16) _ ?_
    show Steps p.tables e below (T6.setTop (mkF m 17 #[.val (.int (-112 : Int32)), .val (.ref w_n10), .val (.int (11 : Int32)), .val (.int (2 : Int32)), .val (.ref w_n1)] [(.ref w_n2)])) _
    refine XS.astore X6.here hx rfl (hb hby d2_17) rfl rfl (l' := #[.val (.int (-112 : Int32)), .val (.ref w_n10), .val (.int (11 : Int32)), .val (.int (2 : Int32)), .val (.ref w_n2)]) rfl ?_
    show Steps p.tables e below (T6.setTop (mkF m 19 #[.val (.int (-112 : Int32)), .val (.ref w_n10), .val (.int (11 : Int32)), .val (.int (2 : Int32)), .val (.ref w_n2)] [])) _
    refine XS.aload X6.here hx rfl (hb hby d2_19) rfl rfl ?_
    show Steps p.tables e below (T6.setTop (mkF m 21 #[.val (.int (-112 : Int32)), .val (.ref w_n10), .val (.int (11 : Int32)), .val (.int (2 : Int32)), .val (.ref w_n2)] [(.ref w_n2)])) _
    refine st8 _ ?_
    show Steps p.tables e below (T8.setTop (mkF m 24 #[.val (.int (-112 : Int32)), .val (.ref w_n10), .val (.int (11 : Int32)), .val (.int (2 : Int32)), .val (.ref w_n2)] [(.int (-5 : Int32))])) _
    refine XS.iloadN X8.here hx rfl (hb hby d2_24) rfl ?_
    show Steps p.tables e below (T8.setTop (mkF m 25 #[.val (.int (-112 : Int32)), .val (.ref w_n10), .val (.int (11 : Int32)), .val (.int (2 : Int32)), .val (.ref w_n2)] [(.int (-112 : Int32)), (.int (-5 : Int32))])) _
    refine XS.icmpYes X8.here hx rfl (pc0 := 25) (pc' := 34) rfl (hb hby d2_25) rfl (feq ((by decide) : ¬ ((-5 : Int32) = (-112 : Int32)))).2 (by decide) (by decide) ?_
    show Steps p.tables e below (T8.setTop (mkF m 34 #[.val (.int (-112 : Int32)), .val (.ref w_n10), .val (.int (11 : Int32)), .val (.int (2 : Int32)), .val (.ref w_n2)] [])) _
    refine XS.iinc X8.here hx rfl (hb hby d2_34) rfl (l' := #[.val (.int (-112 : Int32)), .val (.ref w_n10), .val (.int (11 : Int32)), .val (.int ((2 : Int32) + (1 : Int32))), .val (.ref w_n2)]) rfl ?_
    show Steps p.tables e below (T8.setTop (mkF m 37 #[.val (.int (-112 : Int32)), .val (.ref w_n10), .val (.int (11 : Int32)), .val (.int ((2 : Int32) + (1 : Int32))), .val (.ref w_n2)] [])) _
    rw [show ((2 : Int32) + (1 : Int32)) = (3 : Int32) from by decide]
    show Steps p.tables e below (T8.setTop (mkF m 37 #[.val (.int (-112 : Int32)), .val (.ref w_n10), .val (.int (11 : Int32)), .val (.int (3 : Int32)), .val (.ref w_n2)] [])) _
    refine XS.goto X8.here hx rfl (pc0 := 37) (pc' := 9) rfl (hb hby d2_37) (by decide) (by decide) ?_
    show Steps p.tables e below (T8.setTop (mkF m 9 #[.val (.int (-112 : Int32)), .val (.ref w_n10), .val (.int (11 : Int32)), .val (.int (3 : Int32)), .val (.ref w_n2)] [])) _
    refine XS.iloadN X8.here hx rfl (hb hby d2_9) rfl ?_
    show Steps p.tables e below (T8.setTop (mkF m 10 #[.val (.int (-112 : Int32)), .val (.ref w_n10), .val (.int (11 : Int32)), .val (.int (3 : Int32)), .val (.ref w_n2)] [(.int (3 : Int32))])) _
    refine XS.iloadN X8.here hx rfl (hb hby d2_10) rfl ?_
    show Steps p.tables e below (T8.setTop (mkF m 11 #[.val (.int (-112 : Int32)), .val (.ref w_n10), .val (.int (11 : Int32)), .val (.int (3 : Int32)), .val (.ref w_n2)] [(.int (11 : Int32)), (.int (3 : Int32))])) _
    refine XS.icmpNo X8.here hx rfl (hb hby d2_11) rfl (tlt ((by decide) : (3 : Int32) < (11 : Int32))).2.1 ?_
    show Steps p.tables e below (T8.setTop (mkF m 14 #[.val (.int (-112 : Int32)), .val (.ref w_n10), .val (.int (11 : Int32)), .val (.int (3 : Int32)), .val (.ref w_n2)] [])) _
    refine XS.aloadN X8.here hx rfl (hb hby d2_14) rfl rfl ?_
    show Steps p.tables e below (T8.setTop (mkF m 15 #[.val (.int (-112 : Int32)), .val (.ref w_n10), .val (.int (11 : Int32)), .val (.int (3 : Int32)), .val (.ref w_n2)] [(.ref w_n10)])) _
    refine XS.iloadN X8.here hx rfl (hb hby d2_15) rfl ?_
    show Steps p.tables e below (T8.setTop (mkF m 16 #[.val (.int (-112 : Int32)), .val (.ref w_n10), .val (.int (11 : Int32)), .val (.int (3 : Int32)), .val (.ref w_n2)] [(.int (3 : Int32)), (.ref w_n10)])) _
    refine X8.aaload hx (j := (3 : Int32)) (v := (.ref w_n5)) (by rw [e8]; exact Ar9.1) (State.isArrayOf_alike hZ.alike Ar9.2.1) rfl Ar9.2.2 hin9 hat9 (g := (mkF m 16 #[.val (.int (-112 : Int32)), .val (.ref w_n10), .val (.int (11 : Int32)), .val (.int (3 : Int32)), .val (.ref w_n2)] [(.int (3 : Int32)), (.ref w_n10)])) rfl rfl (hb hby d2_16) _ ?_
    show Steps p.tables e below (T8.setTop (mkF m 17 #[.val (.int (-112 : Int32)), .val (.ref w_n10), .val (.int (11 : Int32)), .val (.int (3 : Int32)), .val (.ref w_n2)] [(.ref w_n5)])) _
    refine XS.astore X8.here hx rfl (hb hby d2_17) rfl rfl (l' := #[.val (.int (-112 : Int32)), .val (.ref w_n10), .val (.int (11 : Int32)), .val (.int (3 : Int32)), .val (.ref w_n5)]) rfl ?_
    show Steps p.tables e below (T8.setTop (mkF m 19 #[.val (.int (-112 : Int32)), .val (.ref w_n10), .val (.int (11 : Int32)), .val (.int (3 : Int32)), .val (.ref w_n5)] [])) _
    refine XS.aload X8.here hx rfl (hb hby d2_19) rfl rfl ?_
    show Steps p.tables e below (T8.setTop (mkF m 21 #[.val (.int (-112 : Int32)), .val (.ref w_n10), .val (.int (11 : Int32)), .val (.int (3 : Int32)), .val (.ref w_n5)] [(.ref w_n5)])) _
    refine st10 _ ?_
    show Steps p.tables e below (T10.setTop (mkF m 24 #[.val (.int (-112 : Int32)), .val (.ref w_n10), .val (.int (11 : Int32)), .val (.int (3 : Int32)), .val (.ref w_n5)] [(.int (-6 : Int32))])) _
    refine XS.iloadN X10.here hx rfl (hb hby d2_24) rfl ?_
    show Steps p.tables e below (T10.setTop (mkF m 25 #[.val (.int (-112 : Int32)), .val (.ref w_n10), .val (.int (11 : Int32)), .val (.int (3 : Int32)), .val (.ref w_n5)] [(.int (-112 : Int32)), (.int (-6 : Int32))])) _
    refine XS.icmpYes X10.here hx rfl (pc0 := 25) (pc' := 34) rfl (hb hby d2_25) rfl (feq ((by decide) : ¬ ((-6 : Int32) = (-112 : Int32)))).2 (by decide) (by decide) ?_
    show Steps p.tables e below (T10.setTop (mkF m 34 #[.val (.int (-112 : Int32)), .val (.ref w_n10), .val (.int (11 : Int32)), .val (.int (3 : Int32)), .val (.ref w_n5)] [])) _
    refine XS.iinc X10.here hx rfl (hb hby d2_34) rfl (l' := #[.val (.int (-112 : Int32)), .val (.ref w_n10), .val (.int (11 : Int32)), .val (.int ((3 : Int32) + (1 : Int32))), .val (.ref w_n5)]) rfl ?_
    show Steps p.tables e below (T10.setTop (mkF m 37 #[.val (.int (-112 : Int32)), .val (.ref w_n10), .val (.int (11 : Int32)), .val (.int ((3 : Int32) + (1 : Int32))), .val (.ref w_n5)] [])) _
    rw [show ((3 : Int32) + (1 : Int32)) = (4 : Int32) from by decide]
    show Steps p.tables e below (T10.setTop (mkF m 37 #[.val (.int (-112 : Int32)), .val (.ref w_n10), .val (.int (11 : Int32)), .val (.int (4 : Int32)), .val (.ref w_n5)] [])) _
    refine XS.goto X10.here hx rfl (pc0 := 37) (pc' := 9) rfl (hb hby d2_37) (by decide) (by decide) ?_
    show Steps p.tables e below (T10.setTop (mkF m 9 #[.val (.int (-112 : Int32)), .val (.ref w_n10), .val (.int (11 : Int32)), .val (.int (4 : Int32)), .val (.ref w_n5)] [])) _
    refine XS.iloadN X10.here hx rfl (hb hby d2_9) rfl ?_
    show Steps p.tables e below (T10.setTop (mkF m 10 #[.val (.int (-112 : Int32)), .val (.ref w_n10), .val (.int (11 : Int32)), .val (.int (4 : Int32)), .val (.ref w_n5)] [(.int (4 : Int32))])) _
    refine XS.iloadN X10.here hx rfl (hb hby d2_10) rfl ?_
    show Steps p.tables e below (T10.setTop (mkF m 11 #[.val (.int (-112 : Int32)), .val (.ref w_n10), .val (.int (11 : Int32)), .val (.int (4 : Int32)), .val (.ref w_n5)] [(.int (11 : Int32)), (.int (4 : Int32))])) _
    refine XS.icmpNo X10.here hx rfl (hb hby d2_11) rfl (tlt ((by decide) : (4 : Int32) < (11 : Int32))).2.1 ?_
    show Steps p.tables e below (T10.setTop (mkF m 14 #[.val (.int (-112 : Int32)), .val (.ref w_n10), .val (.int (11 : Int32)), .val (.int (4 : Int32)), .val (.ref w_n5)] [])) _
    refine XS.aloadN X10.here hx rfl (hb hby d2_14) rfl rfl ?_
    show Steps p.tables e below (T10.setTop (mkF m 15 #[.val (.int (-112 : Int32)), .val (.ref w_n10), .val (.int (11 : Int32)), .val (.int (4 : Int32)), .val (.ref w_n5)] [(.ref w_n10)])) _
    refine XS.iloadN X10.here hx rfl (hb hby d2_15) rfl ?_
    show Steps p.tables e below (T10.setTop (mkF m 16 #[.val (.int (-112 : Int32)), .val (.ref w_n10), .val (.int (11 : Int32)), .val (.int (4 : Int32)), .val (.ref w_n5)] [(.int (4 : Int32)), (.ref w_n10)])) _
    refine X10.aaload hx (j := (4 : Int32)) (v := (.ref w_n4)) (by rw [e10]; exact Ar11.1) (State.isArrayOf_alike hZ.alike Ar11.2.1) rfl Ar11.2.2 hin11 hat11 (g := (mkF m 16 #[.val (.int (-112 : Int32)), .val (.ref w_n10), .val (.int (11 : Int32)), .val (.int (4 : Int32)), .val (.ref w_n5)] [(.int (4 : Int32)), (.ref w_n10)])) rfl rfl (hb hby d2_16) _ ?_
    show Steps p.tables e below (T10.setTop (mkF m 17 #[.val (.int (-112 : Int32)), .val (.ref w_n10), .val (.int (11 : Int32)), .val (.int (4 : Int32)), .val (.ref w_n5)] [(.ref w_n4)])) _
    refine XS.astore X10.here hx rfl (hb hby d2_17) rfl rfl (l' := #[.val (.int (-112 : Int32)), .val (.ref w_n10), .val (.int (11 : Int32)), .val (.int (4 : Int32)), .val (.ref w_n4)]) rfl ?_
    show Steps p.tables e below (T10.setTop (mkF m 19 #[.val (.int (-112 : Int32)), .val (.ref w_n10), .val (.int (11 : Int32)), .val (.int (4 : Int32)), .val (.ref w_n4)] [])) _
    refine XS.aload X10.here hx rfl (hb hby d2_19) rfl rfl ?_
    show Steps p.tables e below (T10.setTop (mkF m 21 #[.val (.int (-112 : Int32)), .val (.ref w_n10), .val (.int (11 : Int32)), .val (.int (4 : Int32)), .val (.ref w_n4)] [(.ref w_n4)])) _
    refine st12 _ ?_
    show Steps p.tables e below (T12.setTop (mkF m 24 #[.val (.int (-112 : Int32)), .val (.ref w_n10), .val (.int (11 : Int32)), .val (.int (4 : Int32)), .val (.ref w_n4)] [(.int (-8 : Int32))])) _
    refine XS.iloadN X12.here hx rfl (hb hby d2_24) rfl ?_
    show Steps p.tables e below (T12.setTop (mkF m 25 #[.val (.int (-112 : Int32)), .val (.ref w_n10), .val (.int (11 : Int32)), .val (.int (4 : Int32)), .val (.ref w_n4)] [(.int (-112 : Int32)), (.int (-8 : Int32))])) _
    refine XS.icmpYes X12.here hx rfl (pc0 := 25) (pc' := 34) rfl (hb hby d2_25) rfl (feq ((by decide) : ¬ ((-8 : Int32) = (-112 : Int32)))).2 (by decide) (by decide) ?_
    show Steps p.tables e below (T12.setTop (mkF m 34 #[.val (.int (-112 : Int32)), .val (.ref w_n10), .val (.int (11 : Int32)), .val (.int (4 : Int32)), .val (.ref w_n4)] [])) _
    refine XS.iinc X12.here hx rfl (hb hby d2_34) rfl (l' := #[.val (.int (-112 : Int32)), .val (.ref w_n10), .val (.int (11 : Int32)), .val (.int ((4 : Int32) + (1 : Int32))), .val (.ref w_n4)]) rfl ?_
    show Steps p.tables e below (T12.setTop (mkF m 37 #[.val (.int (-112 : Int32)), .val (.ref w_n10), .val (.int (11 : Int32)), .val (.int ((4 : Int32) + (1 : Int32))), .val (.ref w_n4)] [])) _
    rw [show ((4 : Int32) + (1 : Int32)) = (5 : Int32) from by decide]
    show Steps p.tables e below (T12.setTop (mkF m 37 #[.val (.int (-112 : Int32)), .val (.ref w_n10), .val (.int (11 : Int32)), .val (.int (5 : Int32)), .val (.ref w_n4)] [])) _
    refine XS.goto X12.here hx rfl (pc0 := 37) (pc' := 9) rfl (hb hby d2_37) (by decide) (by decide) ?_
    show Steps p.tables e below (T12.setTop (mkF m 9 #[.val (.int (-112 : Int32)), .val (.ref w_n10), .val (.int (11 : Int32)), .val (.int (5 : Int32)), .val (.ref w_n4)] [])) _
    refine XS.iloadN X12.here hx rfl (hb hby d2_9) rfl ?_
    show Steps p.tables e below (T12.setTop (mkF m 10 #[.val (.int (-112 : Int32)), .val (.ref w_n10), .val (.int (11 : Int32)), .val (.int (5 : Int32)), .val (.ref w_n4)] [(.int (5 : Int32))])) _
    refine XS.iloadN X12.here hx rfl (hb hby d2_10) rfl ?_
    show Steps p.tables e below (T12.setTop (mkF m 11 #[.val (.int (-112 : Int32)), .val (.ref w_n10), .val (.int (11 : Int32)), .val (.int (5 : Int32)), .val (.ref w_n4)] [(.int (11 : Int32)), (.int (5 : Int32))])) _
    refine XS.icmpNo X12.here hx rfl (hb hby d2_11) rfl (tlt ((by decide) : (5 : Int32) < (11 : Int32))).2.1 ?_
    show Steps p.tables e below (T12.setTop (mkF m 14 #[.val (.int (-112 : Int32)), .val (.ref w_n10), .val (.int (11 : Int32)), .val (.int (5 : Int32)), .val (.ref w_n4)] [])) _
    refine XS.aloadN X12.here hx rfl (hb hby d2_14) rfl rfl ?_
    show Steps p.tables e below (T12.setTop (mkF m 15 #[.val (.int (-112 : Int32)), .val (.ref w_n10), .val (.int (11 : Int32)), .val (.int (5 : Int32)), .val (.ref w_n4)] [(.ref w_n10)])) _
    refine XS.iloadN X12.here hx rfl (hb hby d2_15) rfl ?_
    show Steps p.tables e below (T12.setTop (mkF m 16 #[.val (.int (-112 : Int32)), .val (.ref w_n10), .val (.int (11 : Int32)), .val (.int (5 : Int32)), .val (.ref w_n4)] [(.int (5 : Int32)), (.ref w_n10)])) _
    refine X12.aaload hx (j := (5 : Int32)) (v := (.ref w_n9)) (by rw [e12]; exact Ar13.1) (State.isArrayOf_alike hZ.alike Ar13.2.1) rfl Ar13.2.2 hin13 hat13 (g := (mkF m 16 #[.val (.int (-112 : Int32)), .val (.ref w_n10), .val (.int (11 : Int32)), .val (.int (5 : Int32)), .val (.ref w_n4)] [(.int (5 : Int32)), (.ref w_n10)])) rfl rfl (hb hby d2_16) _ ?_
    show Steps p.tables e below (T12.setTop (mkF m 17 #[.val (.int (-112 : Int32)), .val (.ref w_n10), .val (.int (11 : Int32)), .val (.int (5 : Int32)), .val (.ref w_n4)] [(.ref w_n9)])) _
    refine XS.astore X12.here hx rfl (hb hby d2_17) rfl rfl (l' := #[.val (.int (-112 : Int32)), .val (.ref w_n10), .val (.int (11 : Int32)), .val (.int (5 : Int32)), .val (.ref w_n9)]) rfl ?_
    show Steps p.tables e below (T12.setTop (mkF m 19 #[.val (.int (-112 : Int32)), .val (.ref w_n10), .val (.int (11 : Int32)), .val (.int (5 : Int32)), .val (.ref w_n9)] [])) _
    refine XS.aload X12.here hx rfl (hb hby d2_19) rfl rfl ?_
    show Steps p.tables e below (T12.setTop (mkF m 21 #[.val (.int (-112 : Int32)), .val (.ref w_n10), .val (.int (11 : Int32)), .val (.int (5 : Int32)), .val (.ref w_n9)] [(.ref w_n9)])) _
    refine st14 _ ?_
    show Steps p.tables e below (T14.setTop (mkF m 24 #[.val (.int (-112 : Int32)), .val (.ref w_n10), .val (.int (11 : Int32)), .val (.int (5 : Int32)), .val (.ref w_n9)] [(.int (-101 : Int32))])) _
    refine XS.iloadN X14.here hx rfl (hb hby d2_24) rfl ?_
    show Steps p.tables e below (T14.setTop (mkF m 25 #[.val (.int (-112 : Int32)), .val (.ref w_n10), .val (.int (11 : Int32)), .val (.int (5 : Int32)), .val (.ref w_n9)] [(.int (-112 : Int32)), (.int (-101 : Int32))])) _
    refine XS.icmpYes X14.here hx rfl (pc0 := 25) (pc' := 34) rfl (hb hby d2_25) rfl (feq ((by decide) : ¬ ((-101 : Int32) = (-112 : Int32)))).2 (by decide) (by decide) ?_
    show Steps p.tables e below (T14.setTop (mkF m 34 #[.val (.int (-112 : Int32)), .val (.ref w_n10), .val (.int (11 : Int32)), .val (.int (5 : Int32)), .val (.ref w_n9)] [])) _
    refine XS.iinc X14.here hx rfl (hb hby d2_34) rfl (l' := #[.val (.int (-112 : Int32)), .val (.ref w_n10), .val (.int (11 : Int32)), .val (.int ((5 : Int32) + (1 : Int32))), .val (.ref w_n9)]) rfl ?_
    show Steps p.tables e below (T14.setTop (mkF m 37 #[.val (.int (-112 : Int32)), .val (.ref w_n10), .val (.int (11 : Int32)), .val (.int ((5 : Int32) + (1 : Int32))), .val (.ref w_n9)] [])) _
    rw [show ((5 : Int32) + (1 : Int32)) = (6 : Int32) from by decide]
    show Steps p.tables e below (T14.setTop (mkF m 37 #[.val (.int (-112 : Int32)), .val (.ref w_n10), .val (.int (11 : Int32)), .val (.int (6 : Int32)), .val (.ref w_n9)] [])) _
    refine XS.goto X14.here hx rfl (pc0 := 37) (pc' := 9) rfl (hb hby d2_37) (by decide) (by decide) ?_
    show Steps p.tables e below (T14.setTop (mkF m 9 #[.val (.int (-112 : Int32)), .val (.ref w_n10), .val (.int (11 : Int32)), .val (.int (6 : Int32)), .val (.ref w_n9)] [])) _
    refine XS.iloadN X14.here hx rfl (hb hby d2_9) rfl ?_
    show Steps p.tables e below (T14.setTop (mkF m 10 #[.val (.int (-112 : Int32)), .val (.ref w_n10), .val (.int (11 : Int32)), .val (.int (6 : Int32)), .val (.ref w_n9)] [(.int (6 : Int32))])) _
    refine XS.iloadN X14.here hx rfl (hb hby d2_10) rfl ?_
    show Steps p.tables e below (T14.setTop (mkF m 11 #[.val (.int (-112 : Int32)), .val (.ref w_n10), .val (.int (11 : Int32)), .val (.int (6 : Int32)), .val (.ref w_n9)] [(.int (11 : Int32)), (.int (6 : Int32))])) _
    refine XS.icmpNo X14.here hx rfl (hb hby d2_11) rfl (tlt ((by decide) : (6 : Int32) < (11 : Int32))).2.1 ?_
    show Steps p.tables e below (T14.setTop (mkF m 14 #[.val (.int (-112 : Int32)), .val (.ref w_n10), .val (.int (11 : Int32)), .val (.int (6 : Int32)), .val (.ref w_n9)] [])) _
    refine XS.aloadN X14.here hx rfl (hb hby d2_14) rfl rfl ?_
    show Steps p.tables e below (T14.setTop (mkF m 15 #[.val (.int (-112 : Int32)), .val (.ref w_n10), .val (.int (11 : Int32)), .val (.int (6 : Int32)), .val (.ref w_n9)] [(.ref w_n10)])) _
    refine XS.iloadN X14.here hx rfl (hb hby d2_15) rfl ?_
    show Steps p.tables e below (T14.setTop (mkF m 16 #[.val (.int (-112 : Int32)), .val (.ref w_n10), .val (.int (11 : Int32)), .val (.int (6 : Int32)), .val (.ref w_n9)] [(.int (6 : Int32)), (.ref w_n10)])) _
    refine X14.aaload hx (j := (6 : Int32)) (v := (.ref w_n6)) (by rw [e14]; exact Ar15.1) (State.isArrayOf_alike hZ.alike Ar15.2.1) rfl Ar15.2.2 hin15 hat15 (g := (mkF m 16 #[.val (.int (-112 : Int32)), .val (.ref w_n10), .val (.int (11 : Int32)), .val (.int (6 : Int32)), .val (.ref w_n9)] [(.int (6 : Int32)), (.ref w_n10)])) rfl rfl (hb hby d2_16) _ ?_
    show Steps p.tables e below (T14.setTop (mkF m 17 #[.val (.int (-112 : Int32)), .val (.ref w_n10), .val (.int (11 : Int32)), .val (.int (6 : Int32)), .val (.ref w_n9)] [(.ref w_n6)])) _
    refine XS.astore X14.here hx rfl (hb hby d2_17) rfl rfl (l' := #[.val (.int (-112 : Int32)), .val (.ref w_n10), .val (.int (11 : Int32)), .val (.int (6 : Int32)), .val (.ref w_n6)]) rfl ?_
    show Steps p.tables e below (T14.setTop (mkF m 19 #[.val (.int (-112 : Int32)), .val (.ref w_n10), .val (.int (11 : Int32)), .val (.int (6 : Int32)), .val (.ref w_n6)] [])) _
    refine XS.aload X14.here hx rfl (hb hby d2_19) rfl rfl ?_
    show Steps p.tables e below (T14.setTop (mkF m 21 #[.val (.int (-112 : Int32)), .val (.ref w_n10), .val (.int (11 : Int32)), .val (.int (6 : Int32)), .val (.ref w_n6)] [(.ref w_n6)])) _
    refine st16 _ ?_
    show Steps p.tables e below (T16.setTop (mkF m 24 #[.val (.int (-112 : Int32)), .val (.ref w_n10), .val (.int (11 : Int32)), .val (.int (6 : Int32)), .val (.ref w_n6)] [(.int (-103 : Int32))])) _
    refine XS.iloadN X16.here hx rfl (hb hby d2_24) rfl ?_
    show Steps p.tables e below (T16.setTop (mkF m 25 #[.val (.int (-112 : Int32)), .val (.ref w_n10), .val (.int (11 : Int32)), .val (.int (6 : Int32)), .val (.ref w_n6)] [(.int (-112 : Int32)), (.int (-103 : Int32))])) _
    refine XS.icmpYes X16.here hx rfl (pc0 := 25) (pc' := 34) rfl (hb hby d2_25) rfl (feq ((by decide) : ¬ ((-103 : Int32) = (-112 : Int32)))).2 (by decide) (by decide) ?_
    show Steps p.tables e below (T16.setTop (mkF m 34 #[.val (.int (-112 : Int32)), .val (.ref w_n10), .val (.int (11 : Int32)), .val (.int (6 : Int32)), .val (.ref w_n6)] [])) _
    refine XS.iinc X16.here hx rfl (hb hby d2_34) rfl (l' := #[.val (.int (-112 : Int32)), .val (.ref w_n10), .val (.int (11 : Int32)), .val (.int ((6 : Int32) + (1 : Int32))), .val (.ref w_n6)]) rfl ?_
    show Steps p.tables e below (T16.setTop (mkF m 37 #[.val (.int (-112 : Int32)), .val (.ref w_n10), .val (.int (11 : Int32)), .val (.int ((6 : Int32) + (1 : Int32))), .val (.ref w_n6)] [])) _
    rw [show ((6 : Int32) + (1 : Int32)) = (7 : Int32) from by decide]
    show Steps p.tables e below (T16.setTop (mkF m 37 #[.val (.int (-112 : Int32)), .val (.ref w_n10), .val (.int (11 : Int32)), .val (.int (7 : Int32)), .val (.ref w_n6)] [])) _
    refine XS.goto X16.here hx rfl (pc0 := 37) (pc' := 9) rfl (hb hby d2_37) (by decide) (by decide) ?_
    show Steps p.tables e below (T16.setTop (mkF m 9 #[.val (.int (-112 : Int32)), .val (.ref w_n10), .val (.int (11 : Int32)), .val (.int (7 : Int32)), .val (.ref w_n6)] [])) _
    refine XS.iloadN X16.here hx rfl (hb hby d2_9) rfl ?_
    show Steps p.tables e below (T16.setTop (mkF m 10 #[.val (.int (-112 : Int32)), .val (.ref w_n10), .val (.int (11 : Int32)), .val (.int (7 : Int32)), .val (.ref w_n6)] [(.int (7 : Int32))])) _
    refine XS.iloadN X16.here hx rfl (hb hby d2_10) rfl ?_
    show Steps p.tables e below (T16.setTop (mkF m 11 #[.val (.int (-112 : Int32)), .val (.ref w_n10), .val (.int (11 : Int32)), .val (.int (7 : Int32)), .val (.ref w_n6)] [(.int (11 : Int32)), (.int (7 : Int32))])) _
    refine XS.icmpNo X16.here hx rfl (hb hby d2_11) rfl (tlt ((by decide) : (7 : Int32) < (11 : Int32))).2.1 ?_
    show Steps p.tables e below (T16.setTop (mkF m 14 #[.val (.int (-112 : Int32)), .val (.ref w_n10), .val (.int (11 : Int32)), .val (.int (7 : Int32)), .val (.ref w_n6)] [])) _
    refine XS.aloadN X16.here hx rfl (hb hby d2_14) rfl rfl ?_
    show Steps p.tables e below (T16.setTop (mkF m 15 #[.val (.int (-112 : Int32)), .val (.ref w_n10), .val (.int (11 : Int32)), .val (.int (7 : Int32)), .val (.ref w_n6)] [(.ref w_n10)])) _
    refine XS.iloadN X16.here hx rfl (hb hby d2_15) rfl ?_
    show Steps p.tables e below (T16.setTop (mkF m 16 #[.val (.int (-112 : Int32)), .val (.ref w_n10), .val (.int (11 : Int32)), .val (.int (7 : Int32)), .val (.ref w_n6)] [(.int (7 : Int32)), (.ref w_n10)])) _
    refine X16.aaload hx (j := (7 : Int32)) (v := (.ref w_n0)) (by rw [e16]; exact Ar17.1) (State.isArrayOf_alike hZ.alike Ar17.2.1) rfl Ar17.2.2 hin17 hat17 (g := (mkF m 16 #[.val (.int (-112 : Int32)), .val (.ref w_n10), .val (.int (11 : Int32)), .val (.int (7 : Int32)), .val (.ref w_n6)] [(.int (7 : Int32)), (.ref w_n10)])) rfl rfl (hb hby d2_16) _ ?_
    show Steps p.tables e below (T16.setTop (mkF m 17 #[.val (.int (-112 : Int32)), .val (.ref w_n10), .val (.int (11 : Int32)), .val (.int (7 : Int32)), .val (.ref w_n6)] [(.ref w_n0)])) _
    refine XS.astore X16.here hx rfl (hb hby d2_17) rfl rfl (l' := #[.val (.int (-112 : Int32)), .val (.ref w_n10), .val (.int (11 : Int32)), .val (.int (7 : Int32)), .val (.ref w_n0)]) rfl ?_
    show Steps p.tables e below (T16.setTop (mkF m 19 #[.val (.int (-112 : Int32)), .val (.ref w_n10), .val (.int (11 : Int32)), .val (.int (7 : Int32)), .val (.ref w_n0)] [])) _
    refine XS.aload X16.here hx rfl (hb hby d2_19) rfl rfl ?_
    show Steps p.tables e below (T16.setTop (mkF m 21 #[.val (.int (-112 : Int32)), .val (.ref w_n10), .val (.int (11 : Int32)), .val (.int (7 : Int32)), .val (.ref w_n0)] [(.ref w_n0)])) _
    refine st18 _ ?_
    show Steps p.tables e below (T18.setTop (mkF m 24 #[.val (.int (-112 : Int32)), .val (.ref w_n10), .val (.int (11 : Int32)), .val (.int (7 : Int32)), .val (.ref w_n0)] [(.int (-108 : Int32))])) _
    refine XS.iloadN X18.here hx rfl (hb hby d2_24) rfl ?_
    show Steps p.tables e below (T18.setTop (mkF m 25 #[.val (.int (-112 : Int32)), .val (.ref w_n10), .val (.int (11 : Int32)), .val (.int (7 : Int32)), .val (.ref w_n0)] [(.int (-112 : Int32)), (.int (-108 : Int32))])) _
    refine XS.icmpYes X18.here hx rfl (pc0 := 25) (pc' := 34) rfl (hb hby d2_25) rfl (feq ((by decide) : ¬ ((-108 : Int32) = (-112 : Int32)))).2 (by decide) (by decide) ?_
    show Steps p.tables e below (T18.setTop (mkF m 34 #[.val (.int (-112 : Int32)), .val (.ref w_n10), .val (.int (11 : Int32)), .val (.int (7 : Int32)), .val (.ref w_n0)] [])) _
    refine XS.iinc X18.here hx rfl (hb hby d2_34) rfl (l' := #[.val (.int (-112 : Int32)), .val (.ref w_n10), .val (.int (11 : Int32)), .val (.int ((7 : Int32) + (1 : Int32))), .val (.ref w_n0)]) rfl ?_
    show Steps p.tables e below (T18.setTop (mkF m 37 #[.val (.int (-112 : Int32)), .val (.ref w_n10), .val (.int (11 : Int32)), .val (.int ((7 : Int32) + (1 : Int32))), .val (.ref w_n0)] [])) _
    rw [show ((7 : Int32) + (1 : Int32)) = (8 : Int32) from by decide]
    show Steps p.tables e below (T18.setTop (mkF m 37 #[.val (.int (-112 : Int32)), .val (.ref w_n10), .val (.int (11 : Int32)), .val (.int (8 : Int32)), .val (.ref w_n0)] [])) _
    refine XS.goto X18.here hx rfl (pc0 := 37) (pc' := 9) rfl (hb hby d2_37) (by decide) (by decide) ?_
    show Steps p.tables e below (T18.setTop (mkF m 9 #[.val (.int (-112 : Int32)), .val (.ref w_n10), .val (.int (11 : Int32)), .val (.int (8 : Int32)), .val (.ref w_n0)] [])) _
    refine XS.iloadN X18.here hx rfl (hb hby d2_9) rfl ?_
    show Steps p.tables e below (T18.setTop (mkF m 10 #[.val (.int (-112 : Int32)), .val (.ref w_n10), .val (.int (11 : Int32)), .val (.int (8 : Int32)), .val (.ref w_n0)] [(.int (8 : Int32))])) _
    refine XS.iloadN X18.here hx rfl (hb hby d2_10) rfl ?_
    show Steps p.tables e below (T18.setTop (mkF m 11 #[.val (.int (-112 : Int32)), .val (.ref w_n10), .val (.int (11 : Int32)), .val (.int (8 : Int32)), .val (.ref w_n0)] [(.int (11 : Int32)), (.int (8 : Int32))])) _
    refine XS.icmpNo X18.here hx rfl (hb hby d2_11) rfl (tlt ((by decide) : (8 : Int32) < (11 : Int32))).2.1 ?_
    show Steps p.tables e below (T18.setTop (mkF m 14 #[.val (.int (-112 : Int32)), .val (.ref w_n10), .val (.int (11 : Int32)), .val (.int (8 : Int32)), .val (.ref w_n0)] [])) _
    refine XS.aloadN X18.here hx rfl (hb hby d2_14) rfl rfl ?_
    show Steps p.tables e below (T18.setTop (mkF m 15 #[.val (.int (-112 : Int32)), .val (.ref w_n10), .val (.int (11 : Int32)), .val (.int (8 : Int32)), .val (.ref w_n0)] [(.ref w_n10)])) _
    refine XS.iloadN X18.here hx rfl (hb hby d2_15) rfl ?_
    show Steps p.tables e below (T18.setTop (mkF m 16 #[.val (.int (-112 : Int32)), .val (.ref w_n10), .val (.int (11 : Int32)), .val (.int (8 : Int32)), .val (.ref w_n0)] [(.int (8 : Int32)), (.ref w_n10)])) _
    refine X18.aaload hx (j := (8 : Int32)) (v := (.ref w_n7)) (by rw [e18]; exact Ar19.1) (State.isArrayOf_alike hZ.alike Ar19.2.1) rfl Ar19.2.2 hin19 hat19 (g := (mkF m 16 #[.val (.int (-112 : Int32)), .val (.ref w_n10), .val (.int (11 : Int32)), .val (.int (8 : Int32)), .val (.ref w_n0)] [(.int (8 : Int32)), (.ref w_n10)])) rfl rfl (hb hby d2_16) _ ?_
    show Steps p.tables e below (T18.setTop (mkF m 17 #[.val (.int (-112 : Int32)), .val (.ref w_n10), .val (.int (11 : Int32)), .val (.int (8 : Int32)), .val (.ref w_n0)] [(.ref w_n7)])) _
    refine XS.astore X18.here hx rfl (hb hby d2_17) rfl rfl (l' := #[.val (.int (-112 : Int32)), .val (.ref w_n10), .val (.int (11 : Int32)), .val (.int (8 : Int32)), .val (.ref w_n7)]) rfl ?_
    show Steps p.tables e below (T18.setTop (mkF m 19 #[.val (.int (-112 : Int32)), .val (.ref w_n10), .val (.int (11 : Int32)), .val (.int (8 : Int32)), .val (.ref w_n7)] [])) _
    refine XS.aload X18.here hx rfl (hb hby d2_19) rfl rfl ?_
    show Steps p.tables e below (T18.setTop (mkF m 21 #[.val (.int (-112 : Int32)), .val (.ref w_n10), .val (.int (11 : Int32)), .val (.int (8 : Int32)), .val (.ref w_n7)] [(.ref w_n7)])) _
    refine st20 _ ?_
    show Steps p.tables e below (T20.setTop (mkF m 24 #[.val (.int (-112 : Int32)), .val (.ref w_n10), .val (.int (11 : Int32)), .val (.int (8 : Int32)), .val (.ref w_n7)] [(.int (-110 : Int32))])) _
    refine XS.iloadN X20.here hx rfl (hb hby d2_24) rfl ?_
    show Steps p.tables e below (T20.setTop (mkF m 25 #[.val (.int (-112 : Int32)), .val (.ref w_n10), .val (.int (11 : Int32)), .val (.int (8 : Int32)), .val (.ref w_n7)] [(.int (-112 : Int32)), (.int (-110 : Int32))])) _
    refine XS.icmpYes X20.here hx rfl (pc0 := 25) (pc' := 34) rfl (hb hby d2_25) rfl (feq ((by decide) : ¬ ((-110 : Int32) = (-112 : Int32)))).2 (by decide) (by decide) ?_
    show Steps p.tables e below (T20.setTop (mkF m 34 #[.val (.int (-112 : Int32)), .val (.ref w_n10), .val (.int (11 : Int32)), .val (.int (8 : Int32)), .val (.ref w_n7)] [])) _
    refine XS.iinc X20.here hx rfl (hb hby d2_34) rfl (l' := #[.val (.int (-112 : Int32)), .val (.ref w_n10), .val (.int (11 : Int32)), .val (.int ((8 : Int32) + (1 : Int32))), .val (.ref w_n7)]) rfl ?_
    show Steps p.tables e below (T20.setTop (mkF m 37 #[.val (.int (-112 : Int32)), .val (.ref w_n10), .val (.int (11 : Int32)), .val (.int ((8 : Int32) + (1 : Int32))), .val (.ref w_n7)] [])) _
    rw [show ((8 : Int32) + (1 : Int32)) = (9 : Int32) from by decide]
    show Steps p.tables e below (T20.setTop (mkF m 37 #[.val (.int (-112 : Int32)), .val (.ref w_n10), .val (.int (11 : Int32)), .val (.int (9 : Int32)), .val (.ref w_n7)] [])) _
    refine XS.goto X20.here hx rfl (pc0 := 37) (pc' := 9) rfl (hb hby d2_37) (by decide) (by decide) ?_
    show Steps p.tables e below (T20.setTop (mkF m 9 #[.val (.int (-112 : Int32)), .val (.ref w_n10), .val (.int (11 : Int32)), .val (.int (9 : Int32)), .val (.ref w_n7)] [])) _
    refine XS.iloadN X20.here hx rfl (hb hby d2_9) rfl ?_
    show Steps p.tables e below (T20.setTop (mkF m 10 #[.val (.int (-112 : Int32)), .val (.ref w_n10), .val (.int (11 : Int32)), .val (.int (9 : Int32)), .val (.ref w_n7)] [(.int (9 : Int32))])) _
    refine XS.iloadN X20.here hx rfl (hb hby d2_10) rfl ?_
    show Steps p.tables e below (T20.setTop (mkF m 11 #[.val (.int (-112 : Int32)), .val (.ref w_n10), .val (.int (11 : Int32)), .val (.int (9 : Int32)), .val (.ref w_n7)] [(.int (11 : Int32)), (.int (9 : Int32))])) _
    refine XS.icmpNo X20.here hx rfl (hb hby d2_11) rfl (tlt ((by decide) : (9 : Int32) < (11 : Int32))).2.1 ?_
    show Steps p.tables e below (T20.setTop (mkF m 14 #[.val (.int (-112 : Int32)), .val (.ref w_n10), .val (.int (11 : Int32)), .val (.int (9 : Int32)), .val (.ref w_n7)] [])) _
    refine XS.aloadN X20.here hx rfl (hb hby d2_14) rfl rfl ?_
    show Steps p.tables e below (T20.setTop (mkF m 15 #[.val (.int (-112 : Int32)), .val (.ref w_n10), .val (.int (11 : Int32)), .val (.int (9 : Int32)), .val (.ref w_n7)] [(.ref w_n10)])) _
    refine XS.iloadN X20.here hx rfl (hb hby d2_15) rfl ?_
    show Steps p.tables e below (T20.setTop (mkF m 16 #[.val (.int (-112 : Int32)), .val (.ref w_n10), .val (.int (11 : Int32)), .val (.int (9 : Int32)), .val (.ref w_n7)] [(.int (9 : Int32)), (.ref w_n10)])) _
    refine X20.aaload hx (j := (9 : Int32)) (v := (.ref w_n8)) (by rw [e20]; exact Ar21.1) (State.isArrayOf_alike hZ.alike Ar21.2.1) rfl Ar21.2.2 hin21 hat21 (g := (mkF m 16 #[.val (.int (-112 : Int32)), .val (.ref w_n10), .val (.int (11 : Int32)), .val (.int (9 : Int32)), .val (.ref w_n7)] [(.int (9 : Int32)), (.ref w_n10)])) rfl rfl (hb hby d2_16) _ ?_
    show Steps p.tables e below (T20.setTop (mkF m 17 #[.val (.int (-112 : Int32)), .val (.ref w_n10), .val (.int (11 : Int32)), .val (.int (9 : Int32)), .val (.ref w_n7)] [(.ref w_n8)])) _
    refine XS.astore X20.here hx rfl (hb hby d2_17) rfl rfl (l' := #[.val (.int (-112 : Int32)), .val (.ref w_n10), .val (.int (11 : Int32)), .val (.int (9 : Int32)), .val (.ref w_n8)]) rfl ?_
    show Steps p.tables e below (T20.setTop (mkF m 19 #[.val (.int (-112 : Int32)), .val (.ref w_n10), .val (.int (11 : Int32)), .val (.int (9 : Int32)), .val (.ref w_n8)] [])) _
    refine XS.aload X20.here hx rfl (hb hby d2_19) rfl rfl ?_
    show Steps p.tables e below (T20.setTop (mkF m 21 #[.val (.int (-112 : Int32)), .val (.ref w_n10), .val (.int (11 : Int32)), .val (.int (9 : Int32)), .val (.ref w_n8)] [(.ref w_n8)])) _
    refine st22 _ ?_
    show Steps p.tables e below (T22.setTop (mkF m 24 #[.val (.int (-112 : Int32)), .val (.ref w_n10), .val (.int (11 : Int32)), .val (.int (9 : Int32)), .val (.ref w_n8)] [(.int (-111 : Int32))])) _
    refine XS.iloadN X22.here hx rfl (hb hby d2_24) rfl ?_
    show Steps p.tables e below (T22.setTop (mkF m 25 #[.val (.int (-112 : Int32)), .val (.ref w_n10), .val (.int (11 : Int32)), .val (.int (9 : Int32)), .val (.ref w_n8)] [(.int (-112 : Int32)), (.int (-111 : Int32))])) _
    refine XS.icmpYes X22.here hx rfl (pc0 := 25) (pc' := 34) rfl (hb hby d2_25) rfl (feq ((by decide) : ¬ ((-111 : Int32) = (-112 : Int32)))).2 (by decide) (by decide) ?_
    show Steps p.tables e below (T22.setTop (mkF m 34 #[.val (.int (-112 : Int32)), .val (.ref w_n10), .val (.int (11 : Int32)), .val (.int (9 : Int32)), .val (.ref w_n8)] [])) _
    refine XS.iinc X22.here hx rfl (hb hby d2_34) rfl (l' := #[.val (.int (-112 : Int32)), .val (.ref w_n10), .val (.int (11 : Int32)), .val (.int ((9 : Int32) + (1 : Int32))), .val (.ref w_n8)]) rfl ?_
    show Steps p.tables e below (T22.setTop (mkF m 37 #[.val (.int (-112 : Int32)), .val (.ref w_n10), .val (.int (11 : Int32)), .val (.int ((9 : Int32) + (1 : Int32))), .val (.ref w_n8)] [])) _
    rw [show ((9 : Int32) + (1 : Int32)) = (10 : Int32) from by decide]
    show Steps p.tables e below (T22.setTop (mkF m 37 #[.val (.int (-112 : Int32)), .val (.ref w_n10), .val (.int (11 : Int32)), .val (.int (10 : Int32)), .val (.ref w_n8)] [])) _
    refine XS.goto X22.here hx rfl (pc0 := 37) (pc' := 9) rfl (hb hby d2_37) (by decide) (by decide) ?_
    show Steps p.tables e below (T22.setTop (mkF m 9 #[.val (.int (-112 : Int32)), .val (.ref w_n10), .val (.int (11 : Int32)), .val (.int (10 : Int32)), .val (.ref w_n8)] [])) _
    refine XS.iloadN X22.here hx rfl (hb hby d2_9) rfl ?_
    show Steps p.tables e below (T22.setTop (mkF m 10 #[.val (.int (-112 : Int32)), .val (.ref w_n10), .val (.int (11 : Int32)), .val (.int (10 : Int32)), .val (.ref w_n8)] [(.int (10 : Int32))])) _
    refine XS.iloadN X22.here hx rfl (hb hby d2_10) rfl ?_
    show Steps p.tables e below (T22.setTop (mkF m 11 #[.val (.int (-112 : Int32)), .val (.ref w_n10), .val (.int (11 : Int32)), .val (.int (10 : Int32)), .val (.ref w_n8)] [(.int (11 : Int32)), (.int (10 : Int32))])) _
    refine XS.icmpNo X22.here hx rfl (hb hby d2_11) rfl (tlt ((by decide) : (10 : Int32) < (11 : Int32))).2.1 ?_
    show Steps p.tables e below (T22.setTop (mkF m 14 #[.val (.int (-112 : Int32)), .val (.ref w_n10), .val (.int (11 : Int32)), .val (.int (10 : Int32)), .val (.ref w_n8)] [])) _
    refine XS.aloadN X22.here hx rfl (hb hby d2_14) rfl rfl ?_
    show Steps p.tables e below (T22.setTop (mkF m 15 #[.val (.int (-112 : Int32)), .val (.ref w_n10), .val (.int (11 : Int32)), .val (.int (10 : Int32)), .val (.ref w_n8)] [(.ref w_n10)])) _
    refine XS.iloadN X22.here hx rfl (hb hby d2_15) rfl ?_
    show Steps p.tables e below (T22.setTop (mkF m 16 #[.val (.int (-112 : Int32)), .val (.ref w_n10), .val (.int (11 : Int32)), .val (.int (10 : Int32)), .val (.ref w_n8)] [(.int (10 : Int32)), (.ref w_n10)])) _
    refine X22.aaload hx (j := (10 : Int32)) (v := (.ref w_n3)) (by rw [e22]; exact Ar23.1) (State.isArrayOf_alike hZ.alike Ar23.2.1) rfl Ar23.2.2 hin23 hat23 (g := (mkF m 16 #[.val (.int (-112 : Int32)), .val (.ref w_n10), .val (.int (11 : Int32)), .val (.int (10 : Int32)), .val (.ref w_n8)] [(.int (10 : Int32)), (.ref w_n10)])) rfl rfl (hb hby d2_16) _ ?_
    show Steps p.tables e below (T22.setTop (mkF m 17 #[.val (.int (-112 : Int32)), .val (.ref w_n10), .val (.int (11 : Int32)), .val (.int (10 : Int32)), .val (.ref w_n8)] [(.ref w_n3)])) _
    refine XS.astore X22.here hx rfl (hb hby d2_17) rfl rfl (l' := #[.val (.int (-112 : Int32)), .val (.ref w_n10), .val (.int (11 : Int32)), .val (.int (10 : Int32)), .val (.ref w_n3)]) rfl ?_
    show Steps p.tables e below (T22.setTop (mkF m 19 #[.val (.int (-112 : Int32)), .val (.ref w_n10), .val (.int (11 : Int32)), .val (.int (10 : Int32)), .val (.ref w_n3)] [])) _
    refine XS.aload X22.here hx rfl (hb hby d2_19) rfl rfl ?_
    show Steps p.tables e below (T22.setTop (mkF m 21 #[.val (.int (-112 : Int32)), .val (.ref w_n10), .val (.int (11 : Int32)), .val (.int (10 : Int32)), .val (.ref w_n3)] [(.ref w_n3)])) _
    refine st24 _ ?_
    show Steps p.tables e below (T24.setTop (mkF m 24 #[.val (.int (-112 : Int32)), .val (.ref w_n10), .val (.int (11 : Int32)), .val (.int (10 : Int32)), .val (.ref w_n3)] [(.int (-112 : Int32))])) _
    refine XS.iloadN X24.here hx rfl (hb hby d2_24) rfl ?_
    show Steps p.tables e below (T24.setTop (mkF m 25 #[.val (.int (-112 : Int32)), .val (.ref w_n10), .val (.int (11 : Int32)), .val (.int (10 : Int32)), .val (.ref w_n3)] [(.int (-112 : Int32)), (.int (-112 : Int32))])) _
    refine XS.icmpNo X24.here hx rfl (hb hby d2_25) rfl (teq ((by decide) : (-112 : Int32) = (-112 : Int32))).2 ?_
    show Steps p.tables e below (T24.setTop (mkF m 28 #[.val (.int (-112 : Int32)), .val (.ref w_n10), .val (.int (11 : Int32)), .val (.int (10 : Int32)), .val (.ref w_n3)] [])) _
    refine XS.aload X24.here hx rfl (hb hby d2_28) rfl rfl ?_
    show Steps p.tables e below (T24.setTop (mkF m 30 #[.val (.int (-112 : Int32)), .val (.ref w_n10), .val (.int (11 : Int32)), .val (.int (10 : Int32)), .val (.ref w_n3)] [(.ref w_n3)])) _
    refine st25 _ ?_
    show Steps p.tables e below (T25.setTop (mkF m 33 #[.val (.int (-112 : Int32)), .val (.ref w_n10), .val (.int (11 : Int32)), .val (.int (10 : Int32)), .val (.ref w_n3)] [(.ref b25_b1)])) _
    jvm_step X25.here [X25.here.top, hx, (hb hby d2_33), X25.method', Bd.returns, Value.isRef, FieldType.isReference]
    first | (intro acts; rw [hr _ acts rfl rfl rfl]) | rw [hr _ _ rfl rfl rfl]
    exact Steps.refl _
  · show QW (fun v h => ∃ b25_b1 : Addr, v = some (.ref b25_b1) ∧ Keep h0 h [] ∧ n0 ≤ b25_b1 ∧ h0.size ≤ b25_b1 ∧ Exa Z h b25_b1 "java/util/Optional" ∧ Fld Z h b25_b1 "java/util/Optional" "value" "Ljava/lang/Object;" (.ref w_n3)) n0 _ T25.heap _
    exact ⟨N25, ⟨b25_b1, rfl, K25, g_b25_b1, sz_b25_b1, fp25_0, fp25_1⟩⟩
theorem d8_98 : decode method_2_code 98 = .ok (.iload_n 0, 1) := by decide +kernel
theorem d8_99 : decode method_2_code 99 = .ok (.bipush (-112), 2) := by decide +kernel
theorem d8_101 : decode method_2_code 101 = .ok (.if_icmp .ne 7, 3) := by decide +kernel
theorem d8_104 : decode method_2_code 104 = .ok (.getstatic 40, 3) := by decide +kernel
theorem d8_107 : decode method_2_code 107 = .ok (.areturn, 1) := by decide +kernel
set_option maxRecDepth 65536 in
set_option maxHeartbeats 40000000 in
theorem rm_ex10 (l : Launch) (Z : State) (a0 : Array Value) (hw : ∀ d ∈ tables_1, d.before a0 Z = true) (ws : List Jvm.Cond) {w_n5 : Addr} {w_n10 : Addr} {w_OK : Addr} {w_n1 : Addr} {w_n2 : Addr} {w_n4 : Addr} {w_n9 : Addr} {w_n6 : Addr} {w_n0 : Addr} {w_n7 : Addr} {w_n8 : Addr} {w_n3 : Addr} {w_n11 : Addr} {k_n10 : ClassId} (W : Wd Z w_n5 w_n10 w_OK w_n1 w_n2 w_n4 w_n9 w_n6 w_n0 w_n7 w_n8 w_n3 w_n11 k_n10) (h0 : Heap) (n0 : Nat) (O0 : Old Z n0 h0) :
    MetFree l (⟨"com/example/usher/usher/wire/ErrorCodeForCodePinLaw", "expected", "(I)Lcom/example/usher/usher/wire/ErrorCode;"⟩ : MethodName) (head1 (Jvm.Cond.code (⟨"com/example/usher/usher/wire/ErrorCodeForCodePinLaw", "expected", "(I)Lcom/example/usher/usher/wire/ErrorCode;"⟩ : MethodName) method_2_code 1 (some (.object "com/example/usher/usher/wire/ErrorCode")) :: ws) ({ frames := 0, cells := 0, slots := 0, locals := 0 } : Room)) (fun a U => a = #[(.int (-112 : Int32))] ∧ Z.Warmed39 U.vm ∧ U.heap = h0) (fun _ _ _ _ _ => True) (fun _ U o U' => ∃ v L, o = .returned v ∧ QP (some (.ref w_n3)) h0 n0 v U'.heap L ∧ FrameEnd U o U' L ({ frames := 0, cells := 0, slots := 0, locals := 0 } : Room).cells ({ frames := 0, cells := 0, slots := 0, locals := 0 } : Room).slots) := by
  have W' := W; obtain ⟨S_n5, E_n5, S_n10, S_OK, E_OK, S_n1, E_n1, S_n2, E_n2, S_n4, E_n4, S_n9, E_n9, S_n6, E_n6, S_n0, E_n0, S_n7, E_n7, S_n8, E_n8, S_n3, E_n3, S_n11, E_n11, F_OK_code, F_n5_code, F_n1_code, F_n2_code, F_n4_code, F_n9_code, F_n6_code, F_n0_code, F_n7_code, F_n8_code, F_n3_code, F_n11_value, V_n10⟩ := W'
  refine MetFree.of_bodySF (plainFor_of_name pn_8) hisR ?_
  intro p e s m args below meth c s₁ Bd hml0 hP hK
  obtain ⟨rfl, hZ, hh⟩ := hP
  have hx := Bd.exec
  have hby := Bd.bytes
  have hml : c.maxLocals = 1 := hml0
  have hown : s.vm.findClass "com/example/usher/usher/wire/ErrorCodeForCodePinLaw" = some m.cls := findClass_of_methodNamed Bd.named
  have hnm := (name_of_methodNamed Bd.named Bd.method).1
  have X0 : Stand p l e ({ frames := 0, cells := 0, slots := 0, locals := 0 } : Room) s m #[(.int (-112 : Int32))] below meth c s₁ [] 0 0 := Stand.of_body Bd
  have e0 : s₁.heap = h0 := by rw [← hh, Bd.state]; rfl
  have N0 := Fr.nil n0
  have pre0 : ∀ t, Steps p.tables e below (s₁.setTop (mkF m 0 #[.val (.int (-112 : Int32))] [])) t → Steps p.tables e below (s₁.setTop (entryFrame m #[(.int (-112 : Int32))] 1)) t := fun t k => castTop (ef_8_5 m (-112 : Int32)) k
  obtain ⟨T1, X1, e1, st1⟩ := getS2 X0 hx hZ hown (host := "") (Or.inl (hw _ (List.mem_of_getElem? (i := 66) rfl))) Via.refl e0 (S_n3.ext O0.2) (g := (mkF m 104 #[.val (.int (-112 : Int32))] [])) rfl (hb hby d8_104)
  obtain ⟨fs, hr, hrun, hended, hW, hsame⟩ := X1.leave (v := some (.ref w_n3)) (fun h => by rw [Bd.returns] at h; cases h)
  refine ⟨_, _, pre0 _ ?_, hrun, hended, _, _, rfl, ?_, ⟨_, rfl⟩, hW, hsame.mono (by decide) (by decide)⟩
  · show Steps p.tables e below (s₁.setTop (mkF m 0 #[.val (.int (-112 : Int32))] [])) _
    refine XS.iloadN X0.here hx rfl (hb hby d8_0) rfl ?_
    show Steps p.tables e below (s₁.setTop (mkF m 1 #[.val (.int (-112 : Int32))] [(.int (-112 : Int32))])) _
    refine XS.ifYes X0.here hx rfl (pc0 := 1) (pc' := 8) rfl (hb hby d8_1) rfl ((if0 _ _).trans (feq ((by decide) : ¬ ((-112 : Int32) = (0 : Int32)))).2) (by decide) (by decide) ?_
    show Steps p.tables e below (s₁.setTop (mkF m 8 #[.val (.int (-112 : Int32))] [])) _
    refine XS.iloadN X0.here hx rfl (hb hby d8_8) rfl ?_
    show Steps p.tables e below (s₁.setTop (mkF m 9 #[.val (.int (-112 : Int32))] [(.int (-112 : Int32))])) _
    refine XS.bipush X0.here hx rfl (hb hby d8_9) ?_
    show Steps p.tables e below (s₁.setTop (mkF m 11 #[.val (.int (-112 : Int32))] [(.int (-2 : Int32)), (.int (-112 : Int32))])) _
    refine XS.icmpYes X0.here hx rfl (pc0 := 11) (pc' := 18) rfl (hb hby d8_11) rfl (feq ((by decide) : ¬ ((-112 : Int32) = (-2 : Int32)))).2 (by decide) (by decide) ?_
    show Steps p.tables e below (s₁.setTop (mkF m 18 #[.val (.int (-112 : Int32))] [])) _
    refine XS.iloadN X0.here hx rfl (hb hby d8_18) rfl ?_
    show Steps p.tables e below (s₁.setTop (mkF m 19 #[.val (.int (-112 : Int32))] [(.int (-112 : Int32))])) _
    refine XS.bipush X0.here hx rfl (hb hby d8_19) ?_
    show Steps p.tables e below (s₁.setTop (mkF m 21 #[.val (.int (-112 : Int32))] [(.int (-5 : Int32)), (.int (-112 : Int32))])) _
    refine XS.icmpYes X0.here hx rfl (pc0 := 21) (pc' := 28) rfl (hb hby d8_21) rfl (feq ((by decide) : ¬ ((-112 : Int32) = (-5 : Int32)))).2 (by decide) (by decide) ?_
    show Steps p.tables e below (s₁.setTop (mkF m 28 #[.val (.int (-112 : Int32))] [])) _
    refine XS.iloadN X0.here hx rfl (hb hby d8_28) rfl ?_
    show Steps p.tables e below (s₁.setTop (mkF m 29 #[.val (.int (-112 : Int32))] [(.int (-112 : Int32))])) _
    refine XS.bipush X0.here hx rfl (hb hby d8_29) ?_
    show Steps p.tables e below (s₁.setTop (mkF m 31 #[.val (.int (-112 : Int32))] [(.int (-6 : Int32)), (.int (-112 : Int32))])) _
    refine XS.icmpYes X0.here hx rfl (pc0 := 31) (pc' := 38) rfl (hb hby d8_31) rfl (feq ((by decide) : ¬ ((-112 : Int32) = (-6 : Int32)))).2 (by decide) (by decide) ?_
    show Steps p.tables e below (s₁.setTop (mkF m 38 #[.val (.int (-112 : Int32))] [])) _
    refine XS.iloadN X0.here hx rfl (hb hby d8_38) rfl ?_
    show Steps p.tables e below (s₁.setTop (mkF m 39 #[.val (.int (-112 : Int32))] [(.int (-112 : Int32))])) _
    refine XS.bipush X0.here hx rfl (hb hby d8_39) ?_
    show Steps p.tables e below (s₁.setTop (mkF m 41 #[.val (.int (-112 : Int32))] [(.int (-8 : Int32)), (.int (-112 : Int32))])) _
    refine XS.icmpYes X0.here hx rfl (pc0 := 41) (pc' := 48) rfl (hb hby d8_41) rfl (feq ((by decide) : ¬ ((-112 : Int32) = (-8 : Int32)))).2 (by decide) (by decide) ?_
    show Steps p.tables e below (s₁.setTop (mkF m 48 #[.val (.int (-112 : Int32))] [])) _
    refine XS.iloadN X0.here hx rfl (hb hby d8_48) rfl ?_
    show Steps p.tables e below (s₁.setTop (mkF m 49 #[.val (.int (-112 : Int32))] [(.int (-112 : Int32))])) _
    refine XS.bipush X0.here hx rfl (hb hby d8_49) ?_
    show Steps p.tables e below (s₁.setTop (mkF m 51 #[.val (.int (-112 : Int32))] [(.int (-101 : Int32)), (.int (-112 : Int32))])) _
    refine XS.icmpYes X0.here hx rfl (pc0 := 51) (pc' := 58) rfl (hb hby d8_51) rfl (feq ((by decide) : ¬ ((-112 : Int32) = (-101 : Int32)))).2 (by decide) (by decide) ?_
    show Steps p.tables e below (s₁.setTop (mkF m 58 #[.val (.int (-112 : Int32))] [])) _
    refine XS.iloadN X0.here hx rfl (hb hby d8_58) rfl ?_
    show Steps p.tables e below (s₁.setTop (mkF m 59 #[.val (.int (-112 : Int32))] [(.int (-112 : Int32))])) _
    refine XS.bipush X0.here hx rfl (hb hby d8_59) ?_
    show Steps p.tables e below (s₁.setTop (mkF m 61 #[.val (.int (-112 : Int32))] [(.int (-103 : Int32)), (.int (-112 : Int32))])) _
    refine XS.icmpYes X0.here hx rfl (pc0 := 61) (pc' := 68) rfl (hb hby d8_61) rfl (feq ((by decide) : ¬ ((-112 : Int32) = (-103 : Int32)))).2 (by decide) (by decide) ?_
    show Steps p.tables e below (s₁.setTop (mkF m 68 #[.val (.int (-112 : Int32))] [])) _
    refine XS.iloadN X0.here hx rfl (hb hby d8_68) rfl ?_
    show Steps p.tables e below (s₁.setTop (mkF m 69 #[.val (.int (-112 : Int32))] [(.int (-112 : Int32))])) _
    refine XS.bipush X0.here hx rfl (hb hby d8_69) ?_
    show Steps p.tables e below (s₁.setTop (mkF m 71 #[.val (.int (-112 : Int32))] [(.int (-108 : Int32)), (.int (-112 : Int32))])) _
    refine XS.icmpYes X0.here hx rfl (pc0 := 71) (pc' := 78) rfl (hb hby d8_71) rfl (feq ((by decide) : ¬ ((-112 : Int32) = (-108 : Int32)))).2 (by decide) (by decide) ?_
    show Steps p.tables e below (s₁.setTop (mkF m 78 #[.val (.int (-112 : Int32))] [])) _
    refine XS.iloadN X0.here hx rfl (hb hby d8_78) rfl ?_
    show Steps p.tables e below (s₁.setTop (mkF m 79 #[.val (.int (-112 : Int32))] [(.int (-112 : Int32))])) _
    refine XS.bipush X0.here hx rfl (hb hby d8_79) ?_
    show Steps p.tables e below (s₁.setTop (mkF m 81 #[.val (.int (-112 : Int32))] [(.int (-110 : Int32)), (.int (-112 : Int32))])) _
    refine XS.icmpYes X0.here hx rfl (pc0 := 81) (pc' := 88) rfl (hb hby d8_81) rfl (feq ((by decide) : ¬ ((-112 : Int32) = (-110 : Int32)))).2 (by decide) (by decide) ?_
    show Steps p.tables e below (s₁.setTop (mkF m 88 #[.val (.int (-112 : Int32))] [])) _
    refine XS.iloadN X0.here hx rfl (hb hby d8_88) rfl ?_
    show Steps p.tables e below (s₁.setTop (mkF m 89 #[.val (.int (-112 : Int32))] [(.int (-112 : Int32))])) _
    refine XS.bipush X0.here hx rfl (hb hby d8_89) ?_
    show Steps p.tables e below (s₁.setTop (mkF m 91 #[.val (.int (-112 : Int32))] [(.int (-111 : Int32)), (.int (-112 : Int32))])) _
    refine XS.icmpYes X0.here hx rfl (pc0 := 91) (pc' := 98) rfl (hb hby d8_91) rfl (feq ((by decide) : ¬ ((-112 : Int32) = (-111 : Int32)))).2 (by decide) (by decide) ?_
    show Steps p.tables e below (s₁.setTop (mkF m 98 #[.val (.int (-112 : Int32))] [])) _
    refine XS.iloadN X0.here hx rfl (hb hby d8_98) rfl ?_
    show Steps p.tables e below (s₁.setTop (mkF m 99 #[.val (.int (-112 : Int32))] [(.int (-112 : Int32))])) _
    refine XS.bipush X0.here hx rfl (hb hby d8_99) ?_
    show Steps p.tables e below (s₁.setTop (mkF m 101 #[.val (.int (-112 : Int32))] [(.int (-112 : Int32)), (.int (-112 : Int32))])) _
    refine XS.icmpNo X0.here hx rfl (hb hby d8_101) rfl (teq ((by decide) : (-112 : Int32) = (-112 : Int32))).2 ?_
    show Steps p.tables e below (s₁.setTop (mkF m 104 #[.val (.int (-112 : Int32))] [])) _
    refine st1 _ ?_
    show Steps p.tables e below (T1.setTop (mkF m 107 #[.val (.int (-112 : Int32))] [(.ref w_n3)])) _
    jvm_step X1.here [X1.here.top, hx, (hb hby d8_107), X1.method', Bd.returns, Value.isRef, FieldType.isReference]
    first | (intro acts; rw [hr _ acts rfl rfl rfl]) | rw [hr _ _ rfl rfl rfl]
    exact Steps.refl _
  · show QP (some (.ref w_n3)) h0 n0 _ T1.heap _
    rw [e1]
    exact ⟨rfl, N0, rfl⟩
theorem d2_40 : decode prog_14_method_5_code 40 = .ok (.invokestatic 69, 3) := by decide +kernel
theorem d2_43 : decode prog_14_method_5_code 43 = .ok (.areturn, 1) := by decide +kernel
theorem pd_3 : parseMethodDescriptor "()Ljava/util/Optional;" = some ⟨[], some (.object "java/util/Optional")⟩ := by decide +kernel
set_option maxRecDepth 65536 in
set_option maxHeartbeats 40000000 in
theorem rm_fcz (l : Launch) (Z : State) (a0 : Array Value) (hw : ∀ d ∈ tables_1, d.before a0 Z = true) (ws : List Jvm.Cond) {w_n5 : Addr} {w_n10 : Addr} {w_OK : Addr} {w_n1 : Addr} {w_n2 : Addr} {w_n4 : Addr} {w_n9 : Addr} {w_n6 : Addr} {w_n0 : Addr} {w_n7 : Addr} {w_n8 : Addr} {w_n3 : Addr} {w_n11 : Addr} {k_n10 : ClassId} (W : Wd Z w_n5 w_n10 w_OK w_n1 w_n2 w_n4 w_n9 w_n6 w_n0 w_n7 w_n8 w_n3 w_n11 k_n10) (p1 : Int32) (h0 : Heap) (n0 : Nat) (O0 : Old Z n0 h0) (hn0 : ¬ (p1 = (0 : Int32))) (hn1 : ¬ (p1 = (-2 : Int32))) (hn2 : ¬ (p1 = (-5 : Int32))) (hn3 : ¬ (p1 = (-6 : Int32))) (hn4 : ¬ (p1 = (-8 : Int32))) (hn5 : ¬ (p1 = (-101 : Int32))) (hn6 : ¬ (p1 = (-103 : Int32))) (hn7 : ¬ (p1 = (-108 : Int32))) (hn8 : ¬ (p1 = (-110 : Int32))) (hn9 : ¬ (p1 = (-111 : Int32))) (hn10 : ¬ (p1 = (-112 : Int32))) :
    MetFree l (⟨"com/example/usher/usher/wire/ErrorCode", "forCode", "(I)Ljava/util/Optional;"⟩ : MethodName) (head1 (Jvm.Cond.code (⟨"com/example/usher/usher/wire/ErrorCode", "forCode", "(I)Ljava/util/Optional;"⟩ : MethodName) prog_14_method_5_code 5 (some (.object "java/util/Optional")) :: ws) ({ frames := 1, cells := 0, slots := 0, locals := 12 } : Room)) (fun a U => a = #[(.int p1)] ∧ Z.Warmed39 U.vm ∧ U.heap = h0) (fun _ _ _ _ _ => True) (fun _ U o U' => ∃ v L, o = .returned v ∧ QP (some (.ref w_n11)) h0 n0 v U'.heap L ∧ FrameEnd U o U' L ({ frames := 1, cells := 0, slots := 0, locals := 12 } : Room).cells ({ frames := 1, cells := 0, slots := 0, locals := 12 } : Room).slots) := by
  have W' := W; obtain ⟨S_n5, E_n5, S_n10, S_OK, E_OK, S_n1, E_n1, S_n2, E_n2, S_n4, E_n4, S_n9, E_n9, S_n6, E_n6, S_n0, E_n0, S_n7, E_n7, S_n8, E_n8, S_n3, E_n3, S_n11, E_n11, F_OK_code, F_n5_code, F_n1_code, F_n2_code, F_n4_code, F_n9_code, F_n6_code, F_n0_code, F_n7_code, F_n8_code, F_n3_code, F_n11_value, V_n10⟩ := W'
  refine MetFree.of_bodySF (plainFor_of_name pn_2) hisR ?_
  intro p e s m args below meth c s₁ Bd hml0 hP hK
  obtain ⟨rfl, hZ, hh⟩ := hP
  have hx := Bd.exec
  have hby := Bd.bytes
  have hml : c.maxLocals = 5 := hml0
  have hown : s.vm.findClass "com/example/usher/usher/wire/ErrorCode" = some m.cls := findClass_of_methodNamed Bd.named
  have hnm := (name_of_methodNamed Bd.named Bd.method).1
  have X0 : Stand p l e ({ frames := 1, cells := 0, slots := 0, locals := 12 } : Room) s m #[(.int p1)] below meth c s₁ [] 0 0 := Stand.of_body Bd
  have e0 : s₁.heap = h0 := by rw [← hh, Bd.state]; rfl
  have N0 := Fr.nil n0
  have pre0 : ∀ t, Steps p.tables e below (s₁.setTop (mkF m 0 #[.val (.int p1), .unset, .unset, .unset, .unset] [])) t → Steps p.tables e below (s₁.setTop (entryFrame m #[(.int p1)] 5)) t := fun t k => castTop (ef_2_4 m p1) k
  obtain ⟨T1, X1, e1, st1⟩ := getS2 X0 hx hZ hown (host := "") (Or.inl (hw _ (List.mem_of_getElem? (i := 11) rfl))) Via.refl e0 (S_n10.ext O0.2) (g := (mkF m 0 #[.val (.int p1), .unset, .unset, .unset, .unset] [])) rfl (hb hby d2_0)
  obtain ⟨cl2, Ar2, qk2, Sz2, Nz2, Hs2, Gs2⟩ := id (V_n10.ext O0.2)
  obtain ⟨cl3, Ar3, qk3, Sz3, Nz3, Hs3, Gs3⟩ := id (V_n10.ext O0.2)
  have hin3 : ¬ ((0 : Int32) < 0 ∨ cl3.slots.size ≤ ((0 : Int32)).toNatClampNeg) := inb_of Sz3 ⟨by decide, by decide⟩
  have hat3 : cl3.slots[((0 : Int32)).toNatClampNeg]? = some (.ref w_OK) := Has.at Hs3 hin3 rfl
  obtain ⟨T4, X4, e4, st4⟩ := getF X1 hx hZ hown (host := "") (Or.inl (hw _ (List.mem_of_getElem? (i := 14) rfl))) Via.refl e1 (F_OK_code.ext O0.2) (g := (mkF m 21 #[.val (.int p1), .val (.ref w_n10), .val (.int (11 : Int32)), .val (.int (0 : Int32)), .val (.ref w_OK)] [(.ref w_OK)])) rfl rfl (hb hby d2_21)
  obtain ⟨cl5, Ar5, qk5, Sz5, Nz5, Hs5, Gs5⟩ := id (V_n10.ext O0.2)
  have hin5 : ¬ ((1 : Int32) < 0 ∨ cl5.slots.size ≤ ((1 : Int32)).toNatClampNeg) := inb_of Sz5 ⟨by decide, by decide⟩
  have hat5 : cl5.slots[((1 : Int32)).toNatClampNeg]? = some (.ref w_n1) := Has.at Hs5 hin5 rfl
  obtain ⟨T6, X6, e6, st6⟩ := getF X4 hx hZ hown (host := "") (Or.inl (hw _ (List.mem_of_getElem? (i := 14) rfl))) Via.refl e4 (F_n1_code.ext O0.2) (g := (mkF m 21 #[.val (.int p1), .val (.ref w_n10), .val (.int (11 : Int32)), .val (.int (1 : Int32)), .val (.ref w_n1)] [(.ref w_n1)])) rfl rfl (hb hby d2_21)
  obtain ⟨cl7, Ar7, qk7, Sz7, Nz7, Hs7, Gs7⟩ := id (V_n10.ext O0.2)
  have hin7 : ¬ ((2 : Int32) < 0 ∨ cl7.slots.size ≤ ((2 : Int32)).toNatClampNeg) := inb_of Sz7 ⟨by decide, by decide⟩
  have hat7 : cl7.slots[((2 : Int32)).toNatClampNeg]? = some (.ref w_n2) := Has.at Hs7 hin7 rfl
  obtain ⟨T8, X8, e8, st8⟩ := getF X6 hx hZ hown (host := "") (Or.inl (hw _ (List.mem_of_getElem? (i := 14) rfl))) Via.refl e6 (F_n2_code.ext O0.2) (g := (mkF m 21 #[.val (.int p1), .val (.ref w_n10), .val (.int (11 : Int32)), .val (.int (2 : Int32)), .val (.ref w_n2)] [(.ref w_n2)])) rfl rfl (hb hby d2_21)
  obtain ⟨cl9, Ar9, qk9, Sz9, Nz9, Hs9, Gs9⟩ := id (V_n10.ext O0.2)
  have hin9 : ¬ ((3 : Int32) < 0 ∨ cl9.slots.size ≤ ((3 : Int32)).toNatClampNeg) := inb_of Sz9 ⟨by decide, by decide⟩
  have hat9 : cl9.slots[((3 : Int32)).toNatClampNeg]? = some (.ref w_n5) := Has.at Hs9 hin9 rfl
  obtain ⟨T10, X10, e10, st10⟩ := getF X8 hx hZ hown (host := "") (Or.inl (hw _ (List.mem_of_getElem? (i := 14) rfl))) Via.refl e8 (F_n5_code.ext O0.2) (g := (mkF m 21 #[.val (.int p1), .val (.ref w_n10), .val (.int (11 : Int32)), .val (.int (3 : Int32)), .val (.ref w_n5)] [(.ref w_n5)])) rfl rfl (hb hby d2_21)
  obtain ⟨cl11, Ar11, qk11, Sz11, Nz11, Hs11, Gs11⟩ := id (V_n10.ext O0.2)
  have hin11 : ¬ ((4 : Int32) < 0 ∨ cl11.slots.size ≤ ((4 : Int32)).toNatClampNeg) := inb_of Sz11 ⟨by decide, by decide⟩
  have hat11 : cl11.slots[((4 : Int32)).toNatClampNeg]? = some (.ref w_n4) := Has.at Hs11 hin11 rfl
  obtain ⟨T12, X12, e12, st12⟩ := getF X10 hx hZ hown (host := "") (Or.inl (hw _ (List.mem_of_getElem? (i := 14) rfl))) Via.refl e10 (F_n4_code.ext O0.2) (g := (mkF m 21 #[.val (.int p1), .val (.ref w_n10), .val (.int (11 : Int32)), .val (.int (4 : Int32)), .val (.ref w_n4)] [(.ref w_n4)])) rfl rfl (hb hby d2_21)
  obtain ⟨cl13, Ar13, qk13, Sz13, Nz13, Hs13, Gs13⟩ := id (V_n10.ext O0.2)
  have hin13 : ¬ ((5 : Int32) < 0 ∨ cl13.slots.size ≤ ((5 : Int32)).toNatClampNeg) := inb_of Sz13 ⟨by decide, by decide⟩
  have hat13 : cl13.slots[((5 : Int32)).toNatClampNeg]? = some (.ref w_n9) := Has.at Hs13 hin13 rfl
  obtain ⟨T14, X14, e14, st14⟩ := getF X12 hx hZ hown (host := "") (Or.inl (hw _ (List.mem_of_getElem? (i := 14) rfl))) Via.refl e12 (F_n9_code.ext O0.2) (g := (mkF m 21 #[.val (.int p1), .val (.ref w_n10), .val (.int (11 : Int32)), .val (.int (5 : Int32)), .val (.ref w_n9)] [(.ref w_n9)])) rfl rfl (hb hby d2_21)
  obtain ⟨cl15, Ar15, qk15, Sz15, Nz15, Hs15, Gs15⟩ := id (V_n10.ext O0.2)
  have hin15 : ¬ ((6 : Int32) < 0 ∨ cl15.slots.size ≤ ((6 : Int32)).toNatClampNeg) := inb_of Sz15 ⟨by decide, by decide⟩
  have hat15 : cl15.slots[((6 : Int32)).toNatClampNeg]? = some (.ref w_n6) := Has.at Hs15 hin15 rfl
  obtain ⟨T16, X16, e16, st16⟩ := getF X14 hx hZ hown (host := "") (Or.inl (hw _ (List.mem_of_getElem? (i := 14) rfl))) Via.refl e14 (F_n6_code.ext O0.2) (g := (mkF m 21 #[.val (.int p1), .val (.ref w_n10), .val (.int (11 : Int32)), .val (.int (6 : Int32)), .val (.ref w_n6)] [(.ref w_n6)])) rfl rfl (hb hby d2_21)
  obtain ⟨cl17, Ar17, qk17, Sz17, Nz17, Hs17, Gs17⟩ := id (V_n10.ext O0.2)
  have hin17 : ¬ ((7 : Int32) < 0 ∨ cl17.slots.size ≤ ((7 : Int32)).toNatClampNeg) := inb_of Sz17 ⟨by decide, by decide⟩
  have hat17 : cl17.slots[((7 : Int32)).toNatClampNeg]? = some (.ref w_n0) := Has.at Hs17 hin17 rfl
  obtain ⟨T18, X18, e18, st18⟩ := getF X16 hx hZ hown (host := "") (Or.inl (hw _ (List.mem_of_getElem? (i := 14) rfl))) Via.refl e16 (F_n0_code.ext O0.2) (g := (mkF m 21 #[.val (.int p1), .val (.ref w_n10), .val (.int (11 : Int32)), .val (.int (7 : Int32)), .val (.ref w_n0)] [(.ref w_n0)])) rfl rfl (hb hby d2_21)
  obtain ⟨cl19, Ar19, qk19, Sz19, Nz19, Hs19, Gs19⟩ := id (V_n10.ext O0.2)
  have hin19 : ¬ ((8 : Int32) < 0 ∨ cl19.slots.size ≤ ((8 : Int32)).toNatClampNeg) := inb_of Sz19 ⟨by decide, by decide⟩
  have hat19 : cl19.slots[((8 : Int32)).toNatClampNeg]? = some (.ref w_n7) := Has.at Hs19 hin19 rfl
  obtain ⟨T20, X20, e20, st20⟩ := getF X18 hx hZ hown (host := "") (Or.inl (hw _ (List.mem_of_getElem? (i := 14) rfl))) Via.refl e18 (F_n7_code.ext O0.2) (g := (mkF m 21 #[.val (.int p1), .val (.ref w_n10), .val (.int (11 : Int32)), .val (.int (8 : Int32)), .val (.ref w_n7)] [(.ref w_n7)])) rfl rfl (hb hby d2_21)
  obtain ⟨cl21, Ar21, qk21, Sz21, Nz21, Hs21, Gs21⟩ := id (V_n10.ext O0.2)
  have hin21 : ¬ ((9 : Int32) < 0 ∨ cl21.slots.size ≤ ((9 : Int32)).toNatClampNeg) := inb_of Sz21 ⟨by decide, by decide⟩
  have hat21 : cl21.slots[((9 : Int32)).toNatClampNeg]? = some (.ref w_n8) := Has.at Hs21 hin21 rfl
  obtain ⟨T22, X22, e22, st22⟩ := getF X20 hx hZ hown (host := "") (Or.inl (hw _ (List.mem_of_getElem? (i := 14) rfl))) Via.refl e20 (F_n8_code.ext O0.2) (g := (mkF m 21 #[.val (.int p1), .val (.ref w_n10), .val (.int (11 : Int32)), .val (.int (9 : Int32)), .val (.ref w_n8)] [(.ref w_n8)])) rfl rfl (hb hby d2_21)
  obtain ⟨cl23, Ar23, qk23, Sz23, Nz23, Hs23, Gs23⟩ := id (V_n10.ext O0.2)
  have hin23 : ¬ ((10 : Int32) < 0 ∨ cl23.slots.size ≤ ((10 : Int32)).toNatClampNeg) := inb_of Sz23 ⟨by decide, by decide⟩
  have hat23 : cl23.slots[((10 : Int32)).toNatClampNeg]? = some (.ref w_n3) := Has.at Hs23 hin23 rfl
  obtain ⟨T24, X24, e24, st24⟩ := getF X22 hx hZ hown (host := "") (Or.inl (hw _ (List.mem_of_getElem? (i := 14) rfl))) Via.refl e22 (F_n3_code.ext O0.2) (g := (mkF m 21 #[.val (.int p1), .val (.ref w_n10), .val (.int (11 : Int32)), .val (.int (10 : Int32)), .val (.ref w_n3)] [(.ref w_n3)])) rfl rfl (hb hby d2_21)
  obtain ⟨_, _, ⟨T25, L25, k25, n25⟩, -, X25, ⟨Lc25, hQ25, l25, y25, z25⟩, st25⟩ := Jvm.LawKit.callS X24 hx (y := (⟨"java/util/Optional", "empty", "()Ljava/util/Optional;"⟩ : MethodName)) hown (mvT hZ (hw _ (List.mem_of_getElem? (i := 62) rfl))) (mvT hZ (hw _ (List.mem_of_getElem? (i := 63) rfl))) (mvT hZ (hw _ (List.mem_of_getElem? (i := 18) rfl))) (mvT hZ (hw _ (List.mem_of_getElem? (i := 64) rfl))) (by decide) (backOf (W := 0) (rm_emp l Z a0 hw [] W  h0 n0 O0 ) hZ (hw _ (List.mem_of_getElem? (i := 64) rfl)) (hw _ (List.mem_of_getElem? (i := 18) rfl)) (by decide) (by decide)) (g := (mkF m 40 #[.val (.int p1), .val (.ref w_n10), .val (.int (11 : Int32)), .val (.int (11 : Int32)), .val (.ref w_n3)] [])) rfl (by rw [hml]; rfl) (argsL := []) (rest := []) (lenOf pd_3 rfl) rfl (by show 2 * 0 + _ ≤ _; exact Nat.le_of_eq rfl) (hb hby d2_40) (fun _ _ => ⟨rfl, e24, (by decide : 0 + 0 ≤ _), (by decide : 0 + 0 ≤ _)⟩)
  dsimp only [Pt.U, Pt.locs, Pt.cells, Pt.slots] at X25 l25 y25 z25 st25 hQ25
  subst l25 y25 z25
  obtain ⟨rfl, N25q, e25⟩ := hQ25
  have N25 := Fr.app N0 N25q
  obtain ⟨fs, hr, hrun, hended, hW, hsame⟩ := X25.leave (v := some (.ref w_n11)) (fun h => by rw [Bd.returns] at h; cases h)
  refine ⟨_, _, pre0 _ ?_, hrun, hended, _, _, rfl, ?_, ⟨_, rfl⟩, hW, hsame.mono (by decide) (by decide)⟩
  · show Steps p.tables e below (s₁.setTop (mkF m 0 #[.val (.int p1), .unset, .unset, .unset, .unset] [])) _
    refine st1 _ ?_
    show Steps p.tables e below (T1.setTop (mkF m 3 #[.val (.int p1), .unset, .unset, .unset, .unset] [(.ref w_n10)])) _
    refine XS.astoreN X1.here hx rfl (hb hby d2_3) rfl rfl (l' := #[.val (.int p1), .val (.ref w_n10), .unset, .unset, .unset]) rfl ?_
    show Steps p.tables e below (T1.setTop (mkF m 4 #[.val (.int p1), .val (.ref w_n10), .unset, .unset, .unset] [])) _
    refine XS.aloadN X1.here hx rfl (hb hby d2_4) rfl rfl ?_
    show Steps p.tables e below (T1.setTop (mkF m 5 #[.val (.int p1), .val (.ref w_n10), .unset, .unset, .unset] [(.ref w_n10)])) _
    refine X1.arraylength hx (by rw [e1]; exact Ar2.1) (State.isArrayOf_alike hZ.alike Ar2.2.1) (g := (mkF m 5 #[.val (.int p1), .val (.ref w_n10), .unset, .unset, .unset] [(.ref w_n10)])) rfl rfl (hb hby d2_5) _ ?_
    rw [len_of Sz2 Nz2]
    show Steps p.tables e below (T1.setTop (mkF m 6 #[.val (.int p1), .val (.ref w_n10), .unset, .unset, .unset] [(.int (11 : Int32))])) _
    refine XS.istoreN X1.here hx rfl (hb hby d2_6) rfl (l' := #[.val (.int p1), .val (.ref w_n10), .val (.int (11 : Int32)), .unset, .unset]) rfl ?_
    show Steps p.tables e below (T1.setTop (mkF m 7 #[.val (.int p1), .val (.ref w_n10), .val (.int (11 : Int32)), .unset, .unset] [])) _
    refine XS.iconst X1.here hx rfl (hb hby d2_7) ?_
    show Steps p.tables e below (T1.setTop (mkF m 8 #[.val (.int p1), .val (.ref w_n10), .val (.int (11 : Int32)), .unset, .unset] [(.int (0 : Int32))])) _
    refine XS.istoreN X1.here hx rfl (hb hby d2_8) rfl (l' := #[.val (.int p1), .val (.ref w_n10), .val (.int (11 : Int32)), .val (.int (0 : Int32)), .unset]) rfl ?_
    show Steps p.tables e below (T1.setTop (mkF m 9 #[.val (.int p1), .val (.ref w_n10), .val (.int (11 : Int32)), .val (.int (0 : Int32)), .unset] [])) _
    refine XS.iloadN X1.here hx rfl (hb hby d2_9) rfl ?_
    show Steps p.tables e below (T1.setTop (mkF m 10 #[.val (.int p1), .val (.ref w_n10), .val (.int (11 : Int32)), .val (.int (0 : Int32)), .unset] [(.int (0 : Int32))])) _
    refine XS.iloadN X1.here hx rfl (hb hby d2_10) rfl ?_
    show Steps p.tables e below (T1.setTop (mkF m 11 #[.val (.int p1), .val (.ref w_n10), .val (.int (11 : Int32)), .val (.int (0 : Int32)), .unset] [(.int (11 : Int32)), (.int (0 : Int32))])) _
    refine XS.icmpNo X1.here hx rfl (hb hby d2_11) rfl (tlt ((by decide) : (0 : Int32) < (11 : Int32))).2.1 ?_
    show Steps p.tables e below (T1.setTop (mkF m 14 #[.val (.int p1), .val (.ref w_n10), .val (.int (11 : Int32)), .val (.int (0 : Int32)), .unset] [])) _
    refine XS.aloadN X1.here hx rfl (hb hby d2_14) rfl rfl ?_
    show Steps p.tables e below (T1.setTop (mkF m 15 #[.val (.int p1), .val (.ref w_n10), .val (.int (11 : Int32)), .val (.int (0 : Int32)), .unset] [(.ref w_n10)])) _
    refine XS.iloadN X1.here hx rfl (hb hby d2_15) rfl ?_
    show Steps p.tables e below (T1.setTop (mkF m 16 #[.val (.int p1), .val (.ref w_n10), .val (.int (11 : Int32)), .val (.int (0 : Int32)), .unset] [(.int (0 : Int32)), (.ref w_n10)])) _
    refine X1.aaload hx (j := (0 : Int32)) (v := (.ref w_OK)) (by rw [e1]; exact Ar3.1) (State.isArrayOf_alike hZ.alike Ar3.2.1) rfl Ar3.2.2 hin3 hat3 (g := (mkF m 16 #[.val (.int p1), .val (.ref w_n10), .val (.int (11 : Int32)), .val (.int (0 : Int32)), .unset] [(.int (0 : Int32)), (.ref w_n10)])) rfl rfl (hb hby d2_16) _ ?_
    show Steps p.tables e below (T1.setTop (mkF m 17 #[.val (.int p1), .val (.ref w_n10), .val (.int (11 : Int32)), .val (.int (0 : Int32)), .unset] [(.ref w_OK)])) _
    refine XS.astore X1.here hx rfl (hb hby d2_17) rfl rfl (l' := #[.val (.int p1), .val (.ref w_n10), .val (.int (11 : Int32)), .val (.int (0 : Int32)), .val (.ref w_OK)]) rfl ?_
    show Steps p.tables e below (T1.setTop (mkF m 19 #[.val (.int p1), .val (.ref w_n10), .val (.int (11 : Int32)), .val (.int (0 : Int32)), .val (.ref w_OK)] [])) _
    refine XS.aload X1.here hx rfl (hb hby d2_19) rfl rfl ?_
    show Steps p.tables e below (T1.setTop (mkF m 21 #[.val (.int p1), .val (.ref w_n10), .val (.int (11 : Int32)), .val (.int (0 : Int32)), .val (.ref w_OK)] [(.ref w_OK)])) _
    refine st4 _ ?_
    show Steps p.tables e below (T4.setTop (mkF m 24 #[.val (.int p1), .val (.ref w_n10), .val (.int (11 : Int32)), .val (.int (0 : Int32)), .val (.ref w_OK)] [(.int (0 : Int32))])) _
    refine XS.iloadN X4.here hx rfl (hb hby d2_24) rfl ?_
    show Steps p.tables e below (T4.setTop (mkF m 25 #[.val (.int p1), .val (.ref w_n10), .val (.int (11 : Int32)), .val (.int (0 : Int32)), .val (.ref w_OK)] [(.int p1), (.int (0 : Int32))])) _
    refine XS.icmpYes X4.here hx rfl (pc0 := 25) (pc' := 34) rfl (hb hby d2_25) rfl (feq ((fun q => hn0 q.symm) : ¬ ((0 : Int32) = p1))).2 (by decide) (by decide) ?_
    show Steps p.tables e below (T4.setTop (mkF m 34 #[.val (.int p1), .val (.ref w_n10), .val (.int (11 : Int32)), .val (.int (0 : Int32)), .val (.ref w_OK)] [])) _
    refine XS.iinc X4.here hx rfl (hb hby d2_34) rfl (l' := #[.val (.int p1), .val (.ref w_n10), .val (.int (11 : Int32)), .val (.int ((0 : Int32) + (1 : Int32))), .val (.ref w_OK)]) rfl ?_
    show Steps p.tables e below (T4.setTop (mkF m 37 #[.val (.int p1), .val (.ref w_n10), .val (.int (11 : Int32)), .val (.int ((0 : Int32) + (1 : Int32))), .val (.ref w_OK)] [])) _
    rw [show ((0 : Int32) + (1 : Int32)) = (1 : Int32) from by decide]
    show Steps p.tables e below (T4.setTop (mkF m 37 #[.val (.int p1), .val (.ref w_n10), .val (.int (11 : Int32)), .val (.int (1 : Int32)), .val (.ref w_OK)] [])) _
    refine XS.goto X4.here hx rfl (pc0 := 37) (pc' := 9) rfl (hb hby d2_37) (by decide) (by decide) ?_
    show Steps p.tables e below (T4.setTop (mkF m 9 #[.val (.int p1), .val (.ref w_n10), .val (.int (11 : Int32)), .val (.int (1 : Int32)), .val (.ref w_OK)] [])) _
    refine XS.iloadN X4.here hx rfl (hb hby d2_9) rfl ?_
    show Steps p.tables e below (T4.setTop (mkF m 10 #[.val (.int p1), .val (.ref w_n10), .val (.int (11 : Int32)), .val (.int (1 : Int32)), .val (.ref w_OK)] [(.int (1 : Int32))])) _
    refine XS.iloadN X4.here hx rfl (hb hby d2_10) rfl ?_
    show Steps p.tables e below (T4.setTop (mkF m 11 #[.val (.int p1), .val (.ref w_n10), .val (.int (11 : Int32)), .val (.int (1 : Int32)), .val (.ref w_OK)] [(.int (11 : Int32)), (.int (1 : Int32))])) _
    refine XS.icmpNo X4.here hx rfl (hb hby d2_11) rfl (tlt ((by decide) : (1 : Int32) < (11 : Int32))).2.1 ?_
    show Steps p.tables e below (T4.setTop (mkF m 14 #[.val (.int p1), .val (.ref w_n10), .val (.int (11 : Int32)), .val (.int (1 : Int32)), .val (.ref w_OK)] [])) _
    refine XS.aloadN X4.here hx rfl (hb hby d2_14) rfl rfl ?_
    show Steps p.tables e below (T4.setTop (mkF m 15 #[.val (.int p1), .val (.ref w_n10), .val (.int (11 : Int32)), .val (.int (1 : Int32)), .val (.ref w_OK)] [(.ref w_n10)])) _
    refine XS.iloadN X4.here hx rfl (hb hby d2_15) rfl ?_
    show Steps p.tables e below (T4.setTop (mkF m 16 #[.val (.int p1), .val (.ref w_n10), .val (.int (11 : Int32)), .val (.int (1 : Int32)), .val (.ref w_OK)] [(.int (1 : Int32)), (.ref w_n10)])) _
    refine X4.aaload hx (j := (1 : Int32)) (v := (.ref w_n1)) (by rw [e4]; exact Ar5.1) (State.isArrayOf_alike hZ.alike Ar5.2.1) rfl Ar5.2.2 hin5 hat5 (g := (mkF m 16 #[.val (.int p1), .val (.ref w_n10), .val (.int (11 : Int32)), .val (.int (1 : Int32)), .val (.ref w_OK)] [(.int (1 : Int32)), (.ref w_n10)])) rfl rfl (hb hby d2_16) _ ?_
    show Steps p.tables e below (T4.setTop (mkF m 17 #[.val (.int p1), .val (.ref w_n10), .val (.int (11 : Int32)), .val (.int (1 : Int32)), .val (.ref w_OK)] [(.ref w_n1)])) _
    refine XS.astore X4.here hx rfl (hb hby d2_17) rfl rfl (l' := #[.val (.int p1), .val (.ref w_n10), .val (.int (11 : Int32)), .val (.int (1 : Int32)), .val (.ref w_n1)]) rfl ?_
    show Steps p.tables e below (T4.setTop (mkF m 19 #[.val (.int p1), .val (.ref w_n10), .val (.int (11 : Int32)), .val (.int (1 : Int32)), .val (.ref w_n1)] [])) _
    refine XS.aload X4.here hx rfl (hb hby d2_19) rfl rfl ?_
    show Steps p.tables e below (T4.setTop (mkF m 21 #[.val (.int p1), .val (.ref w_n10), .val (.int (11 : Int32)), .val (.int (1 : Int32)), .val (.ref w_n1)] [(.ref w_n1)])) _
    refine st6 _ ?_
    show Steps p.tables e below (T6.setTop (mkF m 24 #[.val (.int p1), .val (.ref w_n10), .val (.int (11 : Int32)), .val (.int (1 : Int32)), .val (.ref w_n1)] [(.int (-2 : Int32))])) _
    refine XS.iloadN X6.here hx rfl (hb hby d2_24) rfl ?_
    show Steps p.tables e below (T6.setTop (mkF m 25 #[.val (.int p1), .val (.ref w_n10), .val (.int (11 : Int32)), .val (.int (1 : Int32)), .val (.ref w_n1)] [(.int p1), (.int (-2 : Int32))])) _
    refine XS.icmpYes X6.here hx rfl (pc0 := 25) (pc' := 34) rfl (hb hby d2_25) rfl (feq ((fun q => hn1 q.symm) : ¬ ((-2 : Int32) = p1))).2 (by decide) (by decide) ?_
    show Steps p.tables e below (T6.setTop (mkF m 34 #[.val (.int p1), .val (.ref w_n10), .val (.int (11 : Int32)), .val (.int (1 : Int32)), .val (.ref w_n1)] [])) _
    refine XS.iinc X6.here hx rfl (hb hby d2_34) rfl (l' := #[.val (.int p1), .val (.ref w_n10), .val (.int (11 : Int32)), .val (.int ((1 : Int32) + (1 : Int32))), .val (.ref w_n1)]) rfl ?_
    show Steps p.tables e below (T6.setTop (mkF m 37 #[.val (.int p1), .val (.ref w_n10), .val (.int (11 : Int32)), .val (.int ((1 : Int32) + (1 : Int32))), .val (.ref w_n1)] [])) _
    rw [show ((1 : Int32) + (1 : Int32)) = (2 : Int32) from by decide]
    show Steps p.tables e below (T6.setTop (mkF m 37 #[.val (.int p1), .val (.ref w_n10), .val (.int (11 : Int32)), .val (.int (2 : Int32)), .val (.ref w_n1)] [])) _
    refine XS.goto X6.here hx rfl (pc0 := 37) (pc' := 9) rfl (hb hby d2_37) (by decide) (by decide) ?_
    show Steps p.tables e below (T6.setTop (mkF m 9 #[.val (.int p1), .val (.ref w_n10), .val (.int (11 : Int32)), .val (.int (2 : Int32)), .val (.ref w_n1)] [])) _
    refine XS.iloadN X6.here hx rfl (hb hby d2_9) rfl ?_
    show Steps p.tables e below (T6.setTop (mkF m 10 #[.val (.int p1), .val (.ref w_n10), .val (.int (11 : Int32)), .val (.int (2 : Int32)), .val (.ref w_n1)] [(.int (2 : Int32))])) _
    refine XS.iloadN X6.here hx rfl (hb hby d2_10) rfl ?_
    show Steps p.tables e below (T6.setTop (mkF m 11 #[.val (.int p1), .val (.ref w_n10), .val (.int (11 : Int32)), .val (.int (2 : Int32)), .val (.ref w_n1)] [(.int (11 : Int32)), (.int (2 : Int32))])) _
    refine XS.icmpNo X6.here hx rfl (hb hby d2_11) rfl (tlt ((by decide) : (2 : Int32) < (11 : Int32))).2.1 ?_
    show Steps p.tables e below (T6.setTop (mkF m 14 #[.val (.int p1), .val (.ref w_n10), .val (.int (11 : Int32)), .val (.int (2 : Int32)), .val (.ref w_n1)] [])) _
    refine XS.aloadN X6.here hx rfl (hb hby d2_14) rfl rfl ?_
    show Steps p.tables e below (T6.setTop (mkF m 15 #[.val (.int p1), .val (.ref w_n10), .val (.int (11 : Int32)), .val (.int (2 : Int32)), .val (.ref w_n1)] [(.ref w_n10)])) _
    refine XS.iloadN X6.here hx rfl (hb hby d2_15) rfl ?_
    show Steps p.tables e below (T6.setTop (mkF m 16 #[.val (.int p1), .val (.ref w_n10), .val (.int (11 : Int32)), .val (.int (2 : Int32)), .val (.ref w_n1)] [(.int (2 : Int32)), (.ref w_n10)])) _
    refine X6.aaload hx (j := (2 : Int32)) (v := (.ref w_n2)) (by rw [e6]; exact Ar7.1) (State.isArrayOf_alike hZ.alike Ar7.2.1) rfl Ar7.2.2 hin7 hat7 (g := (mkF m 16 #[.val (.int p1), .val (.ref w_n10), .val (.int (11 : Int32)), .val (.int (2 : Int32)), .val (.ref w_n1)] [(.int (2 : Int32)), (.ref w_n10)])) rfl rfl (hb hby d2_16) _ ?_
    show Steps p.tables e below (T6.setTop (mkF m 17 #[.val (.int p1), .val (.ref w_n10), .val (.int (11 : Int32)), .val (.int (2 : Int32)), .val (.ref w_n1)] [(.ref w_n2)])) _
    refine XS.astore X6.here hx rfl (hb hby d2_17) rfl rfl (l' := #[.val (.int p1), .val (.ref w_n10), .val (.int (11 : Int32)), .val (.int (2 : Int32)), .val (.ref w_n2)]) rfl ?_
    show Steps p.tables e below (T6.setTop (mkF m 19 #[.val (.int p1), .val (.ref w_n10), .val (.int (11 : Int32)), .val (.int (2 : Int32)), .val (.ref w_n2)] [])) _
    refine XS.aload X6.here hx rfl (hb hby d2_19) rfl rfl ?_
    show Steps p.tables e below (T6.setTop (mkF m 21 #[.val (.int p1), .val (.ref w_n10), .val (.int (11 : Int32)), .val (.int (2 : Int32)), .val (.ref w_n2)] [(.ref w_n2)])) _
    refine st8 _ ?_
    show Steps p.tables e below (T8.setTop (mkF m 24 #[.val (.int p1), .val (.ref w_n10), .val (.int (11 : Int32)), .val (.int (2 : Int32)), .val (.ref w_n2)] [(.int (-5 : Int32))])) _
    refine XS.iloadN X8.here hx rfl (hb hby d2_24) rfl ?_
    show Steps p.tables e below (T8.setTop (mkF m 25 #[.val (.int p1), .val (.ref w_n10), .val (.int (11 : Int32)), .val (.int (2 : Int32)), .val (.ref w_n2)] [(.int p1), (.int (-5 : Int32))])) _
    refine XS.icmpYes X8.here hx rfl (pc0 := 25) (pc' := 34) rfl (hb hby d2_25) rfl (feq ((fun q => hn2 q.symm) : ¬ ((-5 : Int32) = p1))).2 (by decide) (by decide) ?_
    show Steps p.tables e below (T8.setTop (mkF m 34 #[.val (.int p1), .val (.ref w_n10), .val (.int (11 : Int32)), .val (.int (2 : Int32)), .val (.ref w_n2)] [])) _
    refine XS.iinc X8.here hx rfl (hb hby d2_34) rfl (l' := #[.val (.int p1), .val (.ref w_n10), .val (.int (11 : Int32)), .val (.int ((2 : Int32) + (1 : Int32))), .val (.ref w_n2)]) rfl ?_
    show Steps p.tables e below (T8.setTop (mkF m 37 #[.val (.int p1), .val (.ref w_n10), .val (.int (11 : Int32)), .val (.int ((2 : Int32) + (1 : Int32))), .val (.ref w_n2)] [])) _
    rw [show ((2 : Int32) + (1 : Int32)) = (3 : Int32) from by decide]
    show Steps p.tables e below (T8.setTop (mkF m 37 #[.val (.int p1), .val (.ref w_n10), .val (.int (11 : Int32)), .val (.int (3 : Int32)), .val (.ref w_n2)] [])) _
    refine XS.goto X8.here hx rfl (pc0 := 37) (pc' := 9) rfl (hb hby d2_37) (by decide) (by decide) ?_
    show Steps p.tables e below (T8.setTop (mkF m 9 #[.val (.int p1), .val (.ref w_n10), .val (.int (11 : Int32)), .val (.int (3 : Int32)), .val (.ref w_n2)] [])) _
    refine XS.iloadN X8.here hx rfl (hb hby d2_9) rfl ?_
    show Steps p.tables e below (T8.setTop (mkF m 10 #[.val (.int p1), .val (.ref w_n10), .val (.int (11 : Int32)), .val (.int (3 : Int32)), .val (.ref w_n2)] [(.int (3 : Int32))])) _
    refine XS.iloadN X8.here hx rfl (hb hby d2_10) rfl ?_
    show Steps p.tables e below (T8.setTop (mkF m 11 #[.val (.int p1), .val (.ref w_n10), .val (.int (11 : Int32)), .val (.int (3 : Int32)), .val (.ref w_n2)] [(.int (11 : Int32)), (.int (3 : Int32))])) _
    refine XS.icmpNo X8.here hx rfl (hb hby d2_11) rfl (tlt ((by decide) : (3 : Int32) < (11 : Int32))).2.1 ?_
    show Steps p.tables e below (T8.setTop (mkF m 14 #[.val (.int p1), .val (.ref w_n10), .val (.int (11 : Int32)), .val (.int (3 : Int32)), .val (.ref w_n2)] [])) _
    refine XS.aloadN X8.here hx rfl (hb hby d2_14) rfl rfl ?_
    show Steps p.tables e below (T8.setTop (mkF m 15 #[.val (.int p1), .val (.ref w_n10), .val (.int (11 : Int32)), .val (.int (3 : Int32)), .val (.ref w_n2)] [(.ref w_n10)])) _
    refine XS.iloadN X8.here hx rfl (hb hby d2_15) rfl ?_
    show Steps p.tables e below (T8.setTop (mkF m 16 #[.val (.int p1), .val (.ref w_n10), .val (.int (11 : Int32)), .val (.int (3 : Int32)), .val (.ref w_n2)] [(.int (3 : Int32)), (.ref w_n10)])) _
    refine X8.aaload hx (j := (3 : Int32)) (v := (.ref w_n5)) (by rw [e8]; exact Ar9.1) (State.isArrayOf_alike hZ.alike Ar9.2.1) rfl Ar9.2.2 hin9 hat9 (g := (mkF m 16 #[.val (.int p1), .val (.ref w_n10), .val (.int (11 : Int32)), .val (.int (3 : Int32)), .val (.ref w_n2)] [(.int (3 : Int32)), (.ref w_n10)])) rfl rfl (hb hby d2_16) _ ?_
    show Steps p.tables e below (T8.setTop (mkF m 17 #[.val (.int p1), .val (.ref w_n10), .val (.int (11 : Int32)), .val (.int (3 : Int32)), .val (.ref w_n2)] [(.ref w_n5)])) _
    refine XS.astore X8.here hx rfl (hb hby d2_17) rfl rfl (l' := #[.val (.int p1), .val (.ref w_n10), .val (.int (11 : Int32)), .val (.int (3 : Int32)), .val (.ref w_n5)]) rfl ?_
    show Steps p.tables e below (T8.setTop (mkF m 19 #[.val (.int p1), .val (.ref w_n10), .val (.int (11 : Int32)), .val (.int (3 : Int32)), .val (.ref w_n5)] [])) _
    refine XS.aload X8.here hx rfl (hb hby d2_19) rfl rfl ?_
    show Steps p.tables e below (T8.setTop (mkF m 21 #[.val (.int p1), .val (.ref w_n10), .val (.int (11 : Int32)), .val (.int (3 : Int32)), .val (.ref w_n5)] [(.ref w_n5)])) _
    refine st10 _ ?_
    show Steps p.tables e below (T10.setTop (mkF m 24 #[.val (.int p1), .val (.ref w_n10), .val (.int (11 : Int32)), .val (.int (3 : Int32)), .val (.ref w_n5)] [(.int (-6 : Int32))])) _
    refine XS.iloadN X10.here hx rfl (hb hby d2_24) rfl ?_
    show Steps p.tables e below (T10.setTop (mkF m 25 #[.val (.int p1), .val (.ref w_n10), .val (.int (11 : Int32)), .val (.int (3 : Int32)), .val (.ref w_n5)] [(.int p1), (.int (-6 : Int32))])) _
    refine XS.icmpYes X10.here hx rfl (pc0 := 25) (pc' := 34) rfl (hb hby d2_25) rfl (feq ((fun q => hn3 q.symm) : ¬ ((-6 : Int32) = p1))).2 (by decide) (by decide) ?_
    show Steps p.tables e below (T10.setTop (mkF m 34 #[.val (.int p1), .val (.ref w_n10), .val (.int (11 : Int32)), .val (.int (3 : Int32)), .val (.ref w_n5)] [])) _
    refine XS.iinc X10.here hx rfl (hb hby d2_34) rfl (l' := #[.val (.int p1), .val (.ref w_n10), .val (.int (11 : Int32)), .val (.int ((3 : Int32) + (1 : Int32))), .val (.ref w_n5)]) rfl ?_
    show Steps p.tables e below (T10.setTop (mkF m 37 #[.val (.int p1), .val (.ref w_n10), .val (.int (11 : Int32)), .val (.int ((3 : Int32) + (1 : Int32))), .val (.ref w_n5)] [])) _
    rw [show ((3 : Int32) + (1 : Int32)) = (4 : Int32) from by decide]
    show Steps p.tables e below (T10.setTop (mkF m 37 #[.val (.int p1), .val (.ref w_n10), .val (.int (11 : Int32)), .val (.int (4 : Int32)), .val (.ref w_n5)] [])) _
    refine XS.goto X10.here hx rfl (pc0 := 37) (pc' := 9) rfl (hb hby d2_37) (by decide) (by decide) ?_
    show Steps p.tables e below (T10.setTop (mkF m 9 #[.val (.int p1), .val (.ref w_n10), .val (.int (11 : Int32)), .val (.int (4 : Int32)), .val (.ref w_n5)] [])) _
    refine XS.iloadN X10.here hx rfl (hb hby d2_9) rfl ?_
    show Steps p.tables e below (T10.setTop (mkF m 10 #[.val (.int p1), .val (.ref w_n10), .val (.int (11 : Int32)), .val (.int (4 : Int32)), .val (.ref w_n5)] [(.int (4 : Int32))])) _
    refine XS.iloadN X10.here hx rfl (hb hby d2_10) rfl ?_
    show Steps p.tables e below (T10.setTop (mkF m 11 #[.val (.int p1), .val (.ref w_n10), .val (.int (11 : Int32)), .val (.int (4 : Int32)), .val (.ref w_n5)] [(.int (11 : Int32)), (.int (4 : Int32))])) _
    refine XS.icmpNo X10.here hx rfl (hb hby d2_11) rfl (tlt ((by decide) : (4 : Int32) < (11 : Int32))).2.1 ?_
    show Steps p.tables e below (T10.setTop (mkF m 14 #[.val (.int p1), .val (.ref w_n10), .val (.int (11 : Int32)), .val (.int (4 : Int32)), .val (.ref w_n5)] [])) _
    refine XS.aloadN X10.here hx rfl (hb hby d2_14) rfl rfl ?_
    show Steps p.tables e below (T10.setTop (mkF m 15 #[.val (.int p1), .val (.ref w_n10), .val (.int (11 : Int32)), .val (.int (4 : Int32)), .val (.ref w_n5)] [(.ref w_n10)])) _
    refine XS.iloadN X10.here hx rfl (hb hby d2_15) rfl ?_
    show Steps p.tables e below (T10.setTop (mkF m 16 #[.val (.int p1), .val (.ref w_n10), .val (.int (11 : Int32)), .val (.int (4 : Int32)), .val (.ref w_n5)] [(.int (4 : Int32)), (.ref w_n10)])) _
    refine X10.aaload hx (j := (4 : Int32)) (v := (.ref w_n4)) (by rw [e10]; exact Ar11.1) (State.isArrayOf_alike hZ.alike Ar11.2.1) rfl Ar11.2.2 hin11 hat11 (g := (mkF m 16 #[.val (.int p1), .val (.ref w_n10), .val (.int (11 : Int32)), .val (.int (4 : Int32)), .val (.ref w_n5)] [(.int (4 : Int32)), (.ref w_n10)])) rfl rfl (hb hby d2_16) _ ?_
    show Steps p.tables e below (T10.setTop (mkF m 17 #[.val (.int p1), .val (.ref w_n10), .val (.int (11 : Int32)), .val (.int (4 : Int32)), .val (.ref w_n5)] [(.ref w_n4)])) _
    refine XS.astore X10.here hx rfl (hb hby d2_17) rfl rfl (l' := #[.val (.int p1), .val (.ref w_n10), .val (.int (11 : Int32)), .val (.int (4 : Int32)), .val (.ref w_n4)]) rfl ?_
    show Steps p.tables e below (T10.setTop (mkF m 19 #[.val (.int p1), .val (.ref w_n10), .val (.int (11 : Int32)), .val (.int (4 : Int32)), .val (.ref w_n4)] [])) _
    refine XS.aload X10.here hx rfl (hb hby d2_19) rfl rfl ?_
    show Steps p.tables e below (T10.setTop (mkF m 21 #[.val (.int p1), .val (.ref w_n10), .val (.int (11 : Int32)), .val (.int (4 : Int32)), .val (.ref w_n4)] [(.ref w_n4)])) _
    refine st12 _ ?_
    show Steps p.tables e below (T12.setTop (mkF m 24 #[.val (.int p1), .val (.ref w_n10), .val (.int (11 : Int32)), .val (.int (4 : Int32)), .val (.ref w_n4)] [(.int (-8 : Int32))])) _
    refine XS.iloadN X12.here hx rfl (hb hby d2_24) rfl ?_
    show Steps p.tables e below (T12.setTop (mkF m 25 #[.val (.int p1), .val (.ref w_n10), .val (.int (11 : Int32)), .val (.int (4 : Int32)), .val (.ref w_n4)] [(.int p1), (.int (-8 : Int32))])) _
    refine XS.icmpYes X12.here hx rfl (pc0 := 25) (pc' := 34) rfl (hb hby d2_25) rfl (feq ((fun q => hn4 q.symm) : ¬ ((-8 : Int32) = p1))).2 (by decide) (by decide) ?_
    show Steps p.tables e below (T12.setTop (mkF m 34 #[.val (.int p1), .val (.ref w_n10), .val (.int (11 : Int32)), .val (.int (4 : Int32)), .val (.ref w_n4)] [])) _
    refine XS.iinc X12.here hx rfl (hb hby d2_34) rfl (l' := #[.val (.int p1), .val (.ref w_n10), .val (.int (11 : Int32)), .val (.int ((4 : Int32) + (1 : Int32))), .val (.ref w_n4)]) rfl ?_
    show Steps p.tables e below (T12.setTop (mkF m 37 #[.val (.int p1), .val (.ref w_n10), .val (.int (11 : Int32)), .val (.int ((4 : Int32) + (1 : Int32))), .val (.ref w_n4)] [])) _
    rw [show ((4 : Int32) + (1 : Int32)) = (5 : Int32) from by decide]
    show Steps p.tables e below (T12.setTop (mkF m 37 #[.val (.int p1), .val (.ref w_n10), .val (.int (11 : Int32)), .val (.int (5 : Int32)), .val (.ref w_n4)] [])) _
    refine XS.goto X12.here hx rfl (pc0 := 37) (pc' := 9) rfl (hb hby d2_37) (by decide) (by decide) ?_
    show Steps p.tables e below (T12.setTop (mkF m 9 #[.val (.int p1), .val (.ref w_n10), .val (.int (11 : Int32)), .val (.int (5 : Int32)), .val (.ref w_n4)] [])) _
    refine XS.iloadN X12.here hx rfl (hb hby d2_9) rfl ?_
    show Steps p.tables e below (T12.setTop (mkF m 10 #[.val (.int p1), .val (.ref w_n10), .val (.int (11 : Int32)), .val (.int (5 : Int32)), .val (.ref w_n4)] [(.int (5 : Int32))])) _
    refine XS.iloadN X12.here hx rfl (hb hby d2_10) rfl ?_
    show Steps p.tables e below (T12.setTop (mkF m 11 #[.val (.int p1), .val (.ref w_n10), .val (.int (11 : Int32)), .val (.int (5 : Int32)), .val (.ref w_n4)] [(.int (11 : Int32)), (.int (5 : Int32))])) _
    refine XS.icmpNo X12.here hx rfl (hb hby d2_11) rfl (tlt ((by decide) : (5 : Int32) < (11 : Int32))).2.1 ?_
    show Steps p.tables e below (T12.setTop (mkF m 14 #[.val (.int p1), .val (.ref w_n10), .val (.int (11 : Int32)), .val (.int (5 : Int32)), .val (.ref w_n4)] [])) _
    refine XS.aloadN X12.here hx rfl (hb hby d2_14) rfl rfl ?_
    show Steps p.tables e below (T12.setTop (mkF m 15 #[.val (.int p1), .val (.ref w_n10), .val (.int (11 : Int32)), .val (.int (5 : Int32)), .val (.ref w_n4)] [(.ref w_n10)])) _
    refine XS.iloadN X12.here hx rfl (hb hby d2_15) rfl ?_
    show Steps p.tables e below (T12.setTop (mkF m 16 #[.val (.int p1), .val (.ref w_n10), .val (.int (11 : Int32)), .val (.int (5 : Int32)), .val (.ref w_n4)] [(.int (5 : Int32)), (.ref w_n10)])) _
    refine X12.aaload hx (j := (5 : Int32)) (v := (.ref w_n9)) (by rw [e12]; exact Ar13.1) (State.isArrayOf_alike hZ.alike Ar13.2.1) rfl Ar13.2.2 hin13 hat13 (g := (mkF m 16 #[.val (.int p1), .val (.ref w_n10), .val (.int (11 : Int32)), .val (.int (5 : Int32)), .val (.ref w_n4)] [(.int (5 : Int32)), (.ref w_n10)])) rfl rfl (hb hby d2_16) _ ?_
    show Steps p.tables e below (T12.setTop (mkF m 17 #[.val (.int p1), .val (.ref w_n10), .val (.int (11 : Int32)), .val (.int (5 : Int32)), .val (.ref w_n4)] [(.ref w_n9)])) _
    refine XS.astore X12.here hx rfl (hb hby d2_17) rfl rfl (l' := #[.val (.int p1), .val (.ref w_n10), .val (.int (11 : Int32)), .val (.int (5 : Int32)), .val (.ref w_n9)]) rfl ?_
    show Steps p.tables e below (T12.setTop (mkF m 19 #[.val (.int p1), .val (.ref w_n10), .val (.int (11 : Int32)), .val (.int (5 : Int32)), .val (.ref w_n9)] [])) _
    refine XS.aload X12.here hx rfl (hb hby d2_19) rfl rfl ?_
    show Steps p.tables e below (T12.setTop (mkF m 21 #[.val (.int p1), .val (.ref w_n10), .val (.int (11 : Int32)), .val (.int (5 : Int32)), .val (.ref w_n9)] [(.ref w_n9)])) _
    refine st14 _ ?_
    show Steps p.tables e below (T14.setTop (mkF m 24 #[.val (.int p1), .val (.ref w_n10), .val (.int (11 : Int32)), .val (.int (5 : Int32)), .val (.ref w_n9)] [(.int (-101 : Int32))])) _
    refine XS.iloadN X14.here hx rfl (hb hby d2_24) rfl ?_
    show Steps p.tables e below (T14.setTop (mkF m 25 #[.val (.int p1), .val (.ref w_n10), .val (.int (11 : Int32)), .val (.int (5 : Int32)), .val (.ref w_n9)] [(.int p1), (.int (-101 : Int32))])) _
    refine XS.icmpYes X14.here hx rfl (pc0 := 25) (pc' := 34) rfl (hb hby d2_25) rfl (feq ((fun q => hn5 q.symm) : ¬ ((-101 : Int32) = p1))).2 (by decide) (by decide) ?_
    show Steps p.tables e below (T14.setTop (mkF m 34 #[.val (.int p1), .val (.ref w_n10), .val (.int (11 : Int32)), .val (.int (5 : Int32)), .val (.ref w_n9)] [])) _
    refine XS.iinc X14.here hx rfl (hb hby d2_34) rfl (l' := #[.val (.int p1), .val (.ref w_n10), .val (.int (11 : Int32)), .val (.int ((5 : Int32) + (1 : Int32))), .val (.ref w_n9)]) rfl ?_
    show Steps p.tables e below (T14.setTop (mkF m 37 #[.val (.int p1), .val (.ref w_n10), .val (.int (11 : Int32)), .val (.int ((5 : Int32) + (1 : Int32))), .val (.ref w_n9)] [])) _
    rw [show ((5 : Int32) + (1 : Int32)) = (6 : Int32) from by decide]
    show Steps p.tables e below (T14.setTop (mkF m 37 #[.val (.int p1), .val (.ref w_n10), .val (.int (11 : Int32)), .val (.int (6 : Int32)), .val (.ref w_n9)] [])) _
    refine XS.goto X14.here hx rfl (pc0 := 37) (pc' := 9) rfl (hb hby d2_37) (by decide) (by decide) ?_
    show Steps p.tables e below (T14.setTop (mkF m 9 #[.val (.int p1), .val (.ref w_n10), .val (.int (11 : Int32)), .val (.int (6 : Int32)), .val (.ref w_n9)] [])) _
    refine XS.iloadN X14.here hx rfl (hb hby d2_9) rfl ?_
    show Steps p.tables e below (T14.setTop (mkF m 10 #[.val (.int p1), .val (.ref w_n10), .val (.int (11 : Int32)), .val (.int (6 : Int32)), .val (.ref w_n9)] [(.int (6 : Int32))])) _
    refine XS.iloadN X14.here hx rfl (hb hby d2_10) rfl ?_
    show Steps p.tables e below (T14.setTop (mkF m 11 #[.val (.int p1), .val (.ref w_n10), .val (.int (11 : Int32)), .val (.int (6 : Int32)), .val (.ref w_n9)] [(.int (11 : Int32)), (.int (6 : Int32))])) _
    refine XS.icmpNo X14.here hx rfl (hb hby d2_11) rfl (tlt ((by decide) : (6 : Int32) < (11 : Int32))).2.1 ?_
    show Steps p.tables e below (T14.setTop (mkF m 14 #[.val (.int p1), .val (.ref w_n10), .val (.int (11 : Int32)), .val (.int (6 : Int32)), .val (.ref w_n9)] [])) _
    refine XS.aloadN X14.here hx rfl (hb hby d2_14) rfl rfl ?_
    show Steps p.tables e below (T14.setTop (mkF m 15 #[.val (.int p1), .val (.ref w_n10), .val (.int (11 : Int32)), .val (.int (6 : Int32)), .val (.ref w_n9)] [(.ref w_n10)])) _
    refine XS.iloadN X14.here hx rfl (hb hby d2_15) rfl ?_
    show Steps p.tables e below (T14.setTop (mkF m 16 #[.val (.int p1), .val (.ref w_n10), .val (.int (11 : Int32)), .val (.int (6 : Int32)), .val (.ref w_n9)] [(.int (6 : Int32)), (.ref w_n10)])) _
    refine X14.aaload hx (j := (6 : Int32)) (v := (.ref w_n6)) (by rw [e14]; exact Ar15.1) (State.isArrayOf_alike hZ.alike Ar15.2.1) rfl Ar15.2.2 hin15 hat15 (g := (mkF m 16 #[.val (.int p1), .val (.ref w_n10), .val (.int (11 : Int32)), .val (.int (6 : Int32)), .val (.ref w_n9)] [(.int (6 : Int32)), (.ref w_n10)])) rfl rfl (hb hby d2_16) _ ?_
    show Steps p.tables e below (T14.setTop (mkF m 17 #[.val (.int p1), .val (.ref w_n10), .val (.int (11 : Int32)), .val (.int (6 : Int32)), .val (.ref w_n9)] [(.ref w_n6)])) _
    refine XS.astore X14.here hx rfl (hb hby d2_17) rfl rfl (l' := #[.val (.int p1), .val (.ref w_n10), .val (.int (11 : Int32)), .val (.int (6 : Int32)), .val (.ref w_n6)]) rfl ?_
    show Steps p.tables e below (T14.setTop (mkF m 19 #[.val (.int p1), .val (.ref w_n10), .val (.int (11 : Int32)), .val (.int (6 : Int32)), .val (.ref w_n6)] [])) _
    refine XS.aload X14.here hx rfl (hb hby d2_19) rfl rfl ?_
    show Steps p.tables e below (T14.setTop (mkF m 21 #[.val (.int p1), .val (.ref w_n10), .val (.int (11 : Int32)), .val (.int (6 : Int32)), .val (.ref w_n6)] [(.ref w_n6)])) _
    refine st16 _ ?_
    show Steps p.tables e below (T16.setTop (mkF m 24 #[.val (.int p1), .val (.ref w_n10), .val (.int (11 : Int32)), .val (.int (6 : Int32)), .val (.ref w_n6)] [(.int (-103 : Int32))])) _
    refine XS.iloadN X16.here hx rfl (hb hby d2_24) rfl ?_
    show Steps p.tables e below (T16.setTop (mkF m 25 #[.val (.int p1), .val (.ref w_n10), .val (.int (11 : Int32)), .val (.int (6 : Int32)), .val (.ref w_n6)] [(.int p1), (.int (-103 : Int32))])) _
    refine XS.icmpYes X16.here hx rfl (pc0 := 25) (pc' := 34) rfl (hb hby d2_25) rfl (feq ((fun q => hn6 q.symm) : ¬ ((-103 : Int32) = p1))).2 (by decide) (by decide) ?_
    show Steps p.tables e below (T16.setTop (mkF m 34 #[.val (.int p1), .val (.ref w_n10), .val (.int (11 : Int32)), .val (.int (6 : Int32)), .val (.ref w_n6)] [])) _
    refine XS.iinc X16.here hx rfl (hb hby d2_34) rfl (l' := #[.val (.int p1), .val (.ref w_n10), .val (.int (11 : Int32)), .val (.int ((6 : Int32) + (1 : Int32))), .val (.ref w_n6)]) rfl ?_
    show Steps p.tables e below (T16.setTop (mkF m 37 #[.val (.int p1), .val (.ref w_n10), .val (.int (11 : Int32)), .val (.int ((6 : Int32) + (1 : Int32))), .val (.ref w_n6)] [])) _
    rw [show ((6 : Int32) + (1 : Int32)) = (7 : Int32) from by decide]
    show Steps p.tables e below (T16.setTop (mkF m 37 #[.val (.int p1), .val (.ref w_n10), .val (.int (11 : Int32)), .val (.int (7 : Int32)), .val (.ref w_n6)] [])) _
    refine XS.goto X16.here hx rfl (pc0 := 37) (pc' := 9) rfl (hb hby d2_37) (by decide) (by decide) ?_
    show Steps p.tables e below (T16.setTop (mkF m 9 #[.val (.int p1), .val (.ref w_n10), .val (.int (11 : Int32)), .val (.int (7 : Int32)), .val (.ref w_n6)] [])) _
    refine XS.iloadN X16.here hx rfl (hb hby d2_9) rfl ?_
    show Steps p.tables e below (T16.setTop (mkF m 10 #[.val (.int p1), .val (.ref w_n10), .val (.int (11 : Int32)), .val (.int (7 : Int32)), .val (.ref w_n6)] [(.int (7 : Int32))])) _
    refine XS.iloadN X16.here hx rfl (hb hby d2_10) rfl ?_
    show Steps p.tables e below (T16.setTop (mkF m 11 #[.val (.int p1), .val (.ref w_n10), .val (.int (11 : Int32)), .val (.int (7 : Int32)), .val (.ref w_n6)] [(.int (11 : Int32)), (.int (7 : Int32))])) _
    refine XS.icmpNo X16.here hx rfl (hb hby d2_11) rfl (tlt ((by decide) : (7 : Int32) < (11 : Int32))).2.1 ?_
    show Steps p.tables e below (T16.setTop (mkF m 14 #[.val (.int p1), .val (.ref w_n10), .val (.int (11 : Int32)), .val (.int (7 : Int32)), .val (.ref w_n6)] [])) _
    refine XS.aloadN X16.here hx rfl (hb hby d2_14) rfl rfl ?_
    show Steps p.tables e below (T16.setTop (mkF m 15 #[.val (.int p1), .val (.ref w_n10), .val (.int (11 : Int32)), .val (.int (7 : Int32)), .val (.ref w_n6)] [(.ref w_n10)])) _
    refine XS.iloadN X16.here hx rfl (hb hby d2_15) rfl ?_
    show Steps p.tables e below (T16.setTop (mkF m 16 #[.val (.int p1), .val (.ref w_n10), .val (.int (11 : Int32)), .val (.int (7 : Int32)), .val (.ref w_n6)] [(.int (7 : Int32)), (.ref w_n10)])) _
    refine X16.aaload hx (j := (7 : Int32)) (v := (.ref w_n0)) (by rw [e16]; exact Ar17.1) (State.isArrayOf_alike hZ.alike Ar17.2.1) rfl Ar17.2.2 hin17 hat17 (g := (mkF m 16 #[.val (.int p1), .val (.ref w_n10), .val (.int (11 : Int32)), .val (.int (7 : Int32)), .val (.ref w_n6)] [(.int (7 : Int32)), (.ref w_n10)])) rfl rfl (hb hby d2_16) _ ?_
    show Steps p.tables e below (T16.setTop (mkF m 17 #[.val (.int p1), .val (.ref w_n10), .val (.int (11 : Int32)), .val (.int (7 : Int32)), .val (.ref w_n6)] [(.ref w_n0)])) _
    refine XS.astore X16.here hx rfl (hb hby d2_17) rfl rfl (l' := #[.val (.int p1), .val (.ref w_n10), .val (.int (11 : Int32)), .val (.int (7 : Int32)), .val (.ref w_n0)]) rfl ?_
    show Steps p.tables e below (T16.setTop (mkF m 19 #[.val (.int p1), .val (.ref w_n10), .val (.int (11 : Int32)), .val (.int (7 : Int32)), .val (.ref w_n0)] [])) _
    refine XS.aload X16.here hx rfl (hb hby d2_19) rfl rfl ?_
    show Steps p.tables e below (T16.setTop (mkF m 21 #[.val (.int p1), .val (.ref w_n10), .val (.int (11 : Int32)), .val (.int (7 : Int32)), .val (.ref w_n0)] [(.ref w_n0)])) _
    refine st18 _ ?_
    show Steps p.tables e below (T18.setTop (mkF m 24 #[.val (.int p1), .val (.ref w_n10), .val (.int (11 : Int32)), .val (.int (7 : Int32)), .val (.ref w_n0)] [(.int (-108 : Int32))])) _
    refine XS.iloadN X18.here hx rfl (hb hby d2_24) rfl ?_
    show Steps p.tables e below (T18.setTop (mkF m 25 #[.val (.int p1), .val (.ref w_n10), .val (.int (11 : Int32)), .val (.int (7 : Int32)), .val (.ref w_n0)] [(.int p1), (.int (-108 : Int32))])) _
    refine XS.icmpYes X18.here hx rfl (pc0 := 25) (pc' := 34) rfl (hb hby d2_25) rfl (feq ((fun q => hn7 q.symm) : ¬ ((-108 : Int32) = p1))).2 (by decide) (by decide) ?_
    show Steps p.tables e below (T18.setTop (mkF m 34 #[.val (.int p1), .val (.ref w_n10), .val (.int (11 : Int32)), .val (.int (7 : Int32)), .val (.ref w_n0)] [])) _
    refine XS.iinc X18.here hx rfl (hb hby d2_34) rfl (l' := #[.val (.int p1), .val (.ref w_n10), .val (.int (11 : Int32)), .val (.int ((7 : Int32) + (1 : Int32))), .val (.ref w_n0)]) rfl ?_
    show Steps p.tables e below (T18.setTop (mkF m 37 #[.val (.int p1), .val (.ref w_n10), .val (.int (11 : Int32)), .val (.int ((7 : Int32) + (1 : Int32))), .val (.ref w_n0)] [])) _
    rw [show ((7 : Int32) + (1 : Int32)) = (8 : Int32) from by decide]
    show Steps p.tables e below (T18.setTop (mkF m 37 #[.val (.int p1), .val (.ref w_n10), .val (.int (11 : Int32)), .val (.int (8 : Int32)), .val (.ref w_n0)] [])) _
    refine XS.goto X18.here hx rfl (pc0 := 37) (pc' := 9) rfl (hb hby d2_37) (by decide) (by decide) ?_
    show Steps p.tables e below (T18.setTop (mkF m 9 #[.val (.int p1), .val (.ref w_n10), .val (.int (11 : Int32)), .val (.int (8 : Int32)), .val (.ref w_n0)] [])) _
    refine XS.iloadN X18.here hx rfl (hb hby d2_9) rfl ?_
    show Steps p.tables e below (T18.setTop (mkF m 10 #[.val (.int p1), .val (.ref w_n10), .val (.int (11 : Int32)), .val (.int (8 : Int32)), .val (.ref w_n0)] [(.int (8 : Int32))])) _
    refine XS.iloadN X18.here hx rfl (hb hby d2_10) rfl ?_
    show Steps p.tables e below (T18.setTop (mkF m 11 #[.val (.int p1), .val (.ref w_n10), .val (.int (11 : Int32)), .val (.int (8 : Int32)), .val (.ref w_n0)] [(.int (11 : Int32)), (.int (8 : Int32))])) _
    refine XS.icmpNo X18.here hx rfl (hb hby d2_11) rfl (tlt ((by decide) : (8 : Int32) < (11 : Int32))).2.1 ?_
    show Steps p.tables e below (T18.setTop (mkF m 14 #[.val (.int p1), .val (.ref w_n10), .val (.int (11 : Int32)), .val (.int (8 : Int32)), .val (.ref w_n0)] [])) _
    refine XS.aloadN X18.here hx rfl (hb hby d2_14) rfl rfl ?_
    show Steps p.tables e below (T18.setTop (mkF m 15 #[.val (.int p1), .val (.ref w_n10), .val (.int (11 : Int32)), .val (.int (8 : Int32)), .val (.ref w_n0)] [(.ref w_n10)])) _
    refine XS.iloadN X18.here hx rfl (hb hby d2_15) rfl ?_
    show Steps p.tables e below (T18.setTop (mkF m 16 #[.val (.int p1), .val (.ref w_n10), .val (.int (11 : Int32)), .val (.int (8 : Int32)), .val (.ref w_n0)] [(.int (8 : Int32)), (.ref w_n10)])) _
    refine X18.aaload hx (j := (8 : Int32)) (v := (.ref w_n7)) (by rw [e18]; exact Ar19.1) (State.isArrayOf_alike hZ.alike Ar19.2.1) rfl Ar19.2.2 hin19 hat19 (g := (mkF m 16 #[.val (.int p1), .val (.ref w_n10), .val (.int (11 : Int32)), .val (.int (8 : Int32)), .val (.ref w_n0)] [(.int (8 : Int32)), (.ref w_n10)])) rfl rfl (hb hby d2_16) _ ?_
    show Steps p.tables e below (T18.setTop (mkF m 17 #[.val (.int p1), .val (.ref w_n10), .val (.int (11 : Int32)), .val (.int (8 : Int32)), .val (.ref w_n0)] [(.ref w_n7)])) _
    refine XS.astore X18.here hx rfl (hb hby d2_17) rfl rfl (l' := #[.val (.int p1), .val (.ref w_n10), .val (.int (11 : Int32)), .val (.int (8 : Int32)), .val (.ref w_n7)]) rfl ?_
    show Steps p.tables e below (T18.setTop (mkF m 19 #[.val (.int p1), .val (.ref w_n10), .val (.int (11 : Int32)), .val (.int (8 : Int32)), .val (.ref w_n7)] [])) _
    refine XS.aload X18.here hx rfl (hb hby d2_19) rfl rfl ?_
    show Steps p.tables e below (T18.setTop (mkF m 21 #[.val (.int p1), .val (.ref w_n10), .val (.int (11 : Int32)), .val (.int (8 : Int32)), .val (.ref w_n7)] [(.ref w_n7)])) _
    refine st20 _ ?_
    show Steps p.tables e below (T20.setTop (mkF m 24 #[.val (.int p1), .val (.ref w_n10), .val (.int (11 : Int32)), .val (.int (8 : Int32)), .val (.ref w_n7)] [(.int (-110 : Int32))])) _
    refine XS.iloadN X20.here hx rfl (hb hby d2_24) rfl ?_
    show Steps p.tables e below (T20.setTop (mkF m 25 #[.val (.int p1), .val (.ref w_n10), .val (.int (11 : Int32)), .val (.int (8 : Int32)), .val (.ref w_n7)] [(.int p1), (.int (-110 : Int32))])) _
    refine XS.icmpYes X20.here hx rfl (pc0 := 25) (pc' := 34) rfl (hb hby d2_25) rfl (feq ((fun q => hn8 q.symm) : ¬ ((-110 : Int32) = p1))).2 (by decide) (by decide) ?_
    show Steps p.tables e below (T20.setTop (mkF m 34 #[.val (.int p1), .val (.ref w_n10), .val (.int (11 : Int32)), .val (.int (8 : Int32)), .val (.ref w_n7)] [])) _
    refine XS.iinc X20.here hx rfl (hb hby d2_34) rfl (l' := #[.val (.int p1), .val (.ref w_n10), .val (.int (11 : Int32)), .val (.int ((8 : Int32) + (1 : Int32))), .val (.ref w_n7)]) rfl ?_
    show Steps p.tables e below (T20.setTop (mkF m 37 #[.val (.int p1), .val (.ref w_n10), .val (.int (11 : Int32)), .val (.int ((8 : Int32) + (1 : Int32))), .val (.ref w_n7)] [])) _
    rw [show ((8 : Int32) + (1 : Int32)) = (9 : Int32) from by decide]
    show Steps p.tables e below (T20.setTop (mkF m 37 #[.val (.int p1), .val (.ref w_n10), .val (.int (11 : Int32)), .val (.int (9 : Int32)), .val (.ref w_n7)] [])) _
    refine XS.goto X20.here hx rfl (pc0 := 37) (pc' := 9) rfl (hb hby d2_37) (by decide) (by decide) ?_
    show Steps p.tables e below (T20.setTop (mkF m 9 #[.val (.int p1), .val (.ref w_n10), .val (.int (11 : Int32)), .val (.int (9 : Int32)), .val (.ref w_n7)] [])) _
    refine XS.iloadN X20.here hx rfl (hb hby d2_9) rfl ?_
    show Steps p.tables e below (T20.setTop (mkF m 10 #[.val (.int p1), .val (.ref w_n10), .val (.int (11 : Int32)), .val (.int (9 : Int32)), .val (.ref w_n7)] [(.int (9 : Int32))])) _
    refine XS.iloadN X20.here hx rfl (hb hby d2_10) rfl ?_
    show Steps p.tables e below (T20.setTop (mkF m 11 #[.val (.int p1), .val (.ref w_n10), .val (.int (11 : Int32)), .val (.int (9 : Int32)), .val (.ref w_n7)] [(.int (11 : Int32)), (.int (9 : Int32))])) _
    refine XS.icmpNo X20.here hx rfl (hb hby d2_11) rfl (tlt ((by decide) : (9 : Int32) < (11 : Int32))).2.1 ?_
    show Steps p.tables e below (T20.setTop (mkF m 14 #[.val (.int p1), .val (.ref w_n10), .val (.int (11 : Int32)), .val (.int (9 : Int32)), .val (.ref w_n7)] [])) _
    refine XS.aloadN X20.here hx rfl (hb hby d2_14) rfl rfl ?_
    show Steps p.tables e below (T20.setTop (mkF m 15 #[.val (.int p1), .val (.ref w_n10), .val (.int (11 : Int32)), .val (.int (9 : Int32)), .val (.ref w_n7)] [(.ref w_n10)])) _
    refine XS.iloadN X20.here hx rfl (hb hby d2_15) rfl ?_
    show Steps p.tables e below (T20.setTop (mkF m 16 #[.val (.int p1), .val (.ref w_n10), .val (.int (11 : Int32)), .val (.int (9 : Int32)), .val (.ref w_n7)] [(.int (9 : Int32)), (.ref w_n10)])) _
    refine X20.aaload hx (j := (9 : Int32)) (v := (.ref w_n8)) (by rw [e20]; exact Ar21.1) (State.isArrayOf_alike hZ.alike Ar21.2.1) rfl Ar21.2.2 hin21 hat21 (g := (mkF m 16 #[.val (.int p1), .val (.ref w_n10), .val (.int (11 : Int32)), .val (.int (9 : Int32)), .val (.ref w_n7)] [(.int (9 : Int32)), (.ref w_n10)])) rfl rfl (hb hby d2_16) _ ?_
    show Steps p.tables e below (T20.setTop (mkF m 17 #[.val (.int p1), .val (.ref w_n10), .val (.int (11 : Int32)), .val (.int (9 : Int32)), .val (.ref w_n7)] [(.ref w_n8)])) _
    refine XS.astore X20.here hx rfl (hb hby d2_17) rfl rfl (l' := #[.val (.int p1), .val (.ref w_n10), .val (.int (11 : Int32)), .val (.int (9 : Int32)), .val (.ref w_n8)]) rfl ?_
    show Steps p.tables e below (T20.setTop (mkF m 19 #[.val (.int p1), .val (.ref w_n10), .val (.int (11 : Int32)), .val (.int (9 : Int32)), .val (.ref w_n8)] [])) _
    refine XS.aload X20.here hx rfl (hb hby d2_19) rfl rfl ?_
    show Steps p.tables e below (T20.setTop (mkF m 21 #[.val (.int p1), .val (.ref w_n10), .val (.int (11 : Int32)), .val (.int (9 : Int32)), .val (.ref w_n8)] [(.ref w_n8)])) _
    refine st22 _ ?_
    show Steps p.tables e below (T22.setTop (mkF m 24 #[.val (.int p1), .val (.ref w_n10), .val (.int (11 : Int32)), .val (.int (9 : Int32)), .val (.ref w_n8)] [(.int (-111 : Int32))])) _
    refine XS.iloadN X22.here hx rfl (hb hby d2_24) rfl ?_
    show Steps p.tables e below (T22.setTop (mkF m 25 #[.val (.int p1), .val (.ref w_n10), .val (.int (11 : Int32)), .val (.int (9 : Int32)), .val (.ref w_n8)] [(.int p1), (.int (-111 : Int32))])) _
    refine XS.icmpYes X22.here hx rfl (pc0 := 25) (pc' := 34) rfl (hb hby d2_25) rfl (feq ((fun q => hn9 q.symm) : ¬ ((-111 : Int32) = p1))).2 (by decide) (by decide) ?_
    show Steps p.tables e below (T22.setTop (mkF m 34 #[.val (.int p1), .val (.ref w_n10), .val (.int (11 : Int32)), .val (.int (9 : Int32)), .val (.ref w_n8)] [])) _
    refine XS.iinc X22.here hx rfl (hb hby d2_34) rfl (l' := #[.val (.int p1), .val (.ref w_n10), .val (.int (11 : Int32)), .val (.int ((9 : Int32) + (1 : Int32))), .val (.ref w_n8)]) rfl ?_
    show Steps p.tables e below (T22.setTop (mkF m 37 #[.val (.int p1), .val (.ref w_n10), .val (.int (11 : Int32)), .val (.int ((9 : Int32) + (1 : Int32))), .val (.ref w_n8)] [])) _
    rw [show ((9 : Int32) + (1 : Int32)) = (10 : Int32) from by decide]
    show Steps p.tables e below (T22.setTop (mkF m 37 #[.val (.int p1), .val (.ref w_n10), .val (.int (11 : Int32)), .val (.int (10 : Int32)), .val (.ref w_n8)] [])) _
    refine XS.goto X22.here hx rfl (pc0 := 37) (pc' := 9) rfl (hb hby d2_37) (by decide) (by decide) ?_
    show Steps p.tables e below (T22.setTop (mkF m 9 #[.val (.int p1), .val (.ref w_n10), .val (.int (11 : Int32)), .val (.int (10 : Int32)), .val (.ref w_n8)] [])) _
    refine XS.iloadN X22.here hx rfl (hb hby d2_9) rfl ?_
    show Steps p.tables e below (T22.setTop (mkF m 10 #[.val (.int p1), .val (.ref w_n10), .val (.int (11 : Int32)), .val (.int (10 : Int32)), .val (.ref w_n8)] [(.int (10 : Int32))])) _
    refine XS.iloadN X22.here hx rfl (hb hby d2_10) rfl ?_
    show Steps p.tables e below (T22.setTop (mkF m 11 #[.val (.int p1), .val (.ref w_n10), .val (.int (11 : Int32)), .val (.int (10 : Int32)), .val (.ref w_n8)] [(.int (11 : Int32)), (.int (10 : Int32))])) _
    refine XS.icmpNo X22.here hx rfl (hb hby d2_11) rfl (tlt ((by decide) : (10 : Int32) < (11 : Int32))).2.1 ?_
    show Steps p.tables e below (T22.setTop (mkF m 14 #[.val (.int p1), .val (.ref w_n10), .val (.int (11 : Int32)), .val (.int (10 : Int32)), .val (.ref w_n8)] [])) _
    refine XS.aloadN X22.here hx rfl (hb hby d2_14) rfl rfl ?_
    show Steps p.tables e below (T22.setTop (mkF m 15 #[.val (.int p1), .val (.ref w_n10), .val (.int (11 : Int32)), .val (.int (10 : Int32)), .val (.ref w_n8)] [(.ref w_n10)])) _
    refine XS.iloadN X22.here hx rfl (hb hby d2_15) rfl ?_
    show Steps p.tables e below (T22.setTop (mkF m 16 #[.val (.int p1), .val (.ref w_n10), .val (.int (11 : Int32)), .val (.int (10 : Int32)), .val (.ref w_n8)] [(.int (10 : Int32)), (.ref w_n10)])) _
    refine X22.aaload hx (j := (10 : Int32)) (v := (.ref w_n3)) (by rw [e22]; exact Ar23.1) (State.isArrayOf_alike hZ.alike Ar23.2.1) rfl Ar23.2.2 hin23 hat23 (g := (mkF m 16 #[.val (.int p1), .val (.ref w_n10), .val (.int (11 : Int32)), .val (.int (10 : Int32)), .val (.ref w_n8)] [(.int (10 : Int32)), (.ref w_n10)])) rfl rfl (hb hby d2_16) _ ?_
    show Steps p.tables e below (T22.setTop (mkF m 17 #[.val (.int p1), .val (.ref w_n10), .val (.int (11 : Int32)), .val (.int (10 : Int32)), .val (.ref w_n8)] [(.ref w_n3)])) _
    refine XS.astore X22.here hx rfl (hb hby d2_17) rfl rfl (l' := #[.val (.int p1), .val (.ref w_n10), .val (.int (11 : Int32)), .val (.int (10 : Int32)), .val (.ref w_n3)]) rfl ?_
    show Steps p.tables e below (T22.setTop (mkF m 19 #[.val (.int p1), .val (.ref w_n10), .val (.int (11 : Int32)), .val (.int (10 : Int32)), .val (.ref w_n3)] [])) _
    refine XS.aload X22.here hx rfl (hb hby d2_19) rfl rfl ?_
    show Steps p.tables e below (T22.setTop (mkF m 21 #[.val (.int p1), .val (.ref w_n10), .val (.int (11 : Int32)), .val (.int (10 : Int32)), .val (.ref w_n3)] [(.ref w_n3)])) _
    refine st24 _ ?_
    show Steps p.tables e below (T24.setTop (mkF m 24 #[.val (.int p1), .val (.ref w_n10), .val (.int (11 : Int32)), .val (.int (10 : Int32)), .val (.ref w_n3)] [(.int (-112 : Int32))])) _
    refine XS.iloadN X24.here hx rfl (hb hby d2_24) rfl ?_
    show Steps p.tables e below (T24.setTop (mkF m 25 #[.val (.int p1), .val (.ref w_n10), .val (.int (11 : Int32)), .val (.int (10 : Int32)), .val (.ref w_n3)] [(.int p1), (.int (-112 : Int32))])) _
    refine XS.icmpYes X24.here hx rfl (pc0 := 25) (pc' := 34) rfl (hb hby d2_25) rfl (feq ((fun q => hn10 q.symm) : ¬ ((-112 : Int32) = p1))).2 (by decide) (by decide) ?_
    show Steps p.tables e below (T24.setTop (mkF m 34 #[.val (.int p1), .val (.ref w_n10), .val (.int (11 : Int32)), .val (.int (10 : Int32)), .val (.ref w_n3)] [])) _
    refine XS.iinc X24.here hx rfl (hb hby d2_34) rfl (l' := #[.val (.int p1), .val (.ref w_n10), .val (.int (11 : Int32)), .val (.int ((10 : Int32) + (1 : Int32))), .val (.ref w_n3)]) rfl ?_
    show Steps p.tables e below (T24.setTop (mkF m 37 #[.val (.int p1), .val (.ref w_n10), .val (.int (11 : Int32)), .val (.int ((10 : Int32) + (1 : Int32))), .val (.ref w_n3)] [])) _
    rw [show ((10 : Int32) + (1 : Int32)) = (11 : Int32) from by decide]
    show Steps p.tables e below (T24.setTop (mkF m 37 #[.val (.int p1), .val (.ref w_n10), .val (.int (11 : Int32)), .val (.int (11 : Int32)), .val (.ref w_n3)] [])) _
    refine XS.goto X24.here hx rfl (pc0 := 37) (pc' := 9) rfl (hb hby d2_37) (by decide) (by decide) ?_
    show Steps p.tables e below (T24.setTop (mkF m 9 #[.val (.int p1), .val (.ref w_n10), .val (.int (11 : Int32)), .val (.int (11 : Int32)), .val (.ref w_n3)] [])) _
    refine XS.iloadN X24.here hx rfl (hb hby d2_9) rfl ?_
    show Steps p.tables e below (T24.setTop (mkF m 10 #[.val (.int p1), .val (.ref w_n10), .val (.int (11 : Int32)), .val (.int (11 : Int32)), .val (.ref w_n3)] [(.int (11 : Int32))])) _
    refine XS.iloadN X24.here hx rfl (hb hby d2_10) rfl ?_
    show Steps p.tables e below (T24.setTop (mkF m 11 #[.val (.int p1), .val (.ref w_n10), .val (.int (11 : Int32)), .val (.int (11 : Int32)), .val (.ref w_n3)] [(.int (11 : Int32)), (.int (11 : Int32))])) _
    refine XS.icmpYes X24.here hx rfl (pc0 := 11) (pc' := 40) rfl (hb hby d2_11) rfl (flt ((by decide) : ¬ ((11 : Int32) < (11 : Int32)))).2.1 (by decide) (by decide) ?_
    show Steps p.tables e below (T24.setTop (mkF m 40 #[.val (.int p1), .val (.ref w_n10), .val (.int (11 : Int32)), .val (.int (11 : Int32)), .val (.ref w_n3)] [])) _
    refine st25 _ ?_
    show Steps p.tables e below (T25.setTop (mkF m 43 #[.val (.int p1), .val (.ref w_n10), .val (.int (11 : Int32)), .val (.int (11 : Int32)), .val (.ref w_n3)] [(.ref w_n11)])) _
    jvm_step X25.here [X25.here.top, hx, (hb hby d2_43), X25.method', Bd.returns, Value.isRef, FieldType.isReference]
    first | (intro acts; rw [hr _ acts rfl rfl rfl]) | rw [hr _ _ rfl rfl rfl]
    exact Steps.refl _
  · show QP (some (.ref w_n11)) h0 n0 _ T25.heap _
    rw [e25]
    exact ⟨rfl, N25, rfl⟩
theorem d8_108 : decode method_2_code 108 = .ok (.aconst_null, 1) := by decide +kernel
theorem d8_109 : decode method_2_code 109 = .ok (.areturn, 1) := by decide +kernel
set_option maxRecDepth 65536 in
set_option maxHeartbeats 40000000 in
theorem rm_exz (l : Launch) (Z : State) (a0 : Array Value) (hw : ∀ d ∈ tables_1, d.before a0 Z = true) (ws : List Jvm.Cond) {w_n5 : Addr} {w_n10 : Addr} {w_OK : Addr} {w_n1 : Addr} {w_n2 : Addr} {w_n4 : Addr} {w_n9 : Addr} {w_n6 : Addr} {w_n0 : Addr} {w_n7 : Addr} {w_n8 : Addr} {w_n3 : Addr} {w_n11 : Addr} {k_n10 : ClassId} (W : Wd Z w_n5 w_n10 w_OK w_n1 w_n2 w_n4 w_n9 w_n6 w_n0 w_n7 w_n8 w_n3 w_n11 k_n10) (p1 : Int32) (h0 : Heap) (n0 : Nat) (O0 : Old Z n0 h0) (hn0 : ¬ (p1 = (0 : Int32))) (hn1 : ¬ (p1 = (-2 : Int32))) (hn2 : ¬ (p1 = (-5 : Int32))) (hn3 : ¬ (p1 = (-6 : Int32))) (hn4 : ¬ (p1 = (-8 : Int32))) (hn5 : ¬ (p1 = (-101 : Int32))) (hn6 : ¬ (p1 = (-103 : Int32))) (hn7 : ¬ (p1 = (-108 : Int32))) (hn8 : ¬ (p1 = (-110 : Int32))) (hn9 : ¬ (p1 = (-111 : Int32))) (hn10 : ¬ (p1 = (-112 : Int32))) :
    MetFree l (⟨"com/example/usher/usher/wire/ErrorCodeForCodePinLaw", "expected", "(I)Lcom/example/usher/usher/wire/ErrorCode;"⟩ : MethodName) (head1 (Jvm.Cond.code (⟨"com/example/usher/usher/wire/ErrorCodeForCodePinLaw", "expected", "(I)Lcom/example/usher/usher/wire/ErrorCode;"⟩ : MethodName) method_2_code 1 (some (.object "com/example/usher/usher/wire/ErrorCode")) :: ws) ({ frames := 0, cells := 0, slots := 0, locals := 0 } : Room)) (fun a U => a = #[(.int p1)] ∧ Z.Warmed39 U.vm ∧ U.heap = h0) (fun _ _ _ _ _ => True) (fun _ U o U' => ∃ v L, o = .returned v ∧ QP (some .null) h0 n0 v U'.heap L ∧ FrameEnd U o U' L ({ frames := 0, cells := 0, slots := 0, locals := 0 } : Room).cells ({ frames := 0, cells := 0, slots := 0, locals := 0 } : Room).slots) := by
  have W' := W; obtain ⟨S_n5, E_n5, S_n10, S_OK, E_OK, S_n1, E_n1, S_n2, E_n2, S_n4, E_n4, S_n9, E_n9, S_n6, E_n6, S_n0, E_n0, S_n7, E_n7, S_n8, E_n8, S_n3, E_n3, S_n11, E_n11, F_OK_code, F_n5_code, F_n1_code, F_n2_code, F_n4_code, F_n9_code, F_n6_code, F_n0_code, F_n7_code, F_n8_code, F_n3_code, F_n11_value, V_n10⟩ := W'
  refine MetFree.of_bodySF (plainFor_of_name pn_8) hisR ?_
  intro p e s m args below meth c s₁ Bd hml0 hP hK
  obtain ⟨rfl, hZ, hh⟩ := hP
  have hx := Bd.exec
  have hby := Bd.bytes
  have hml : c.maxLocals = 1 := hml0
  have hown : s.vm.findClass "com/example/usher/usher/wire/ErrorCodeForCodePinLaw" = some m.cls := findClass_of_methodNamed Bd.named
  have hnm := (name_of_methodNamed Bd.named Bd.method).1
  have X0 : Stand p l e ({ frames := 0, cells := 0, slots := 0, locals := 0 } : Room) s m #[(.int p1)] below meth c s₁ [] 0 0 := Stand.of_body Bd
  have e0 : s₁.heap = h0 := by rw [← hh, Bd.state]; rfl
  have N0 := Fr.nil n0
  have pre0 : ∀ t, Steps p.tables e below (s₁.setTop (mkF m 0 #[.val (.int p1)] [])) t → Steps p.tables e below (s₁.setTop (entryFrame m #[(.int p1)] 1)) t := fun t k => castTop (ef_8_5 m p1) k
  obtain ⟨fs, hr, hrun, hended, hW, hsame⟩ := X0.leave (v := some .null) (fun h => by rw [Bd.returns] at h; cases h)
  refine ⟨_, _, pre0 _ ?_, hrun, hended, _, _, rfl, ?_, ⟨_, rfl⟩, hW, hsame.mono (by decide) (by decide)⟩
  · show Steps p.tables e below (s₁.setTop (mkF m 0 #[.val (.int p1)] [])) _
    refine XS.iloadN X0.here hx rfl (hb hby d8_0) rfl ?_
    show Steps p.tables e below (s₁.setTop (mkF m 1 #[.val (.int p1)] [(.int p1)])) _
    refine XS.ifYes X0.here hx rfl (pc0 := 1) (pc' := 8) rfl (hb hby d8_1) rfl ((if0 _ _).trans (feq (hn0 : ¬ (p1 = (0 : Int32)))).2) (by decide) (by decide) ?_
    show Steps p.tables e below (s₁.setTop (mkF m 8 #[.val (.int p1)] [])) _
    refine XS.iloadN X0.here hx rfl (hb hby d8_8) rfl ?_
    show Steps p.tables e below (s₁.setTop (mkF m 9 #[.val (.int p1)] [(.int p1)])) _
    refine XS.bipush X0.here hx rfl (hb hby d8_9) ?_
    show Steps p.tables e below (s₁.setTop (mkF m 11 #[.val (.int p1)] [(.int (-2 : Int32)), (.int p1)])) _
    refine XS.icmpYes X0.here hx rfl (pc0 := 11) (pc' := 18) rfl (hb hby d8_11) rfl (feq (hn1 : ¬ (p1 = (-2 : Int32)))).2 (by decide) (by decide) ?_
    show Steps p.tables e below (s₁.setTop (mkF m 18 #[.val (.int p1)] [])) _
    refine XS.iloadN X0.here hx rfl (hb hby d8_18) rfl ?_
    show Steps p.tables e below (s₁.setTop (mkF m 19 #[.val (.int p1)] [(.int p1)])) _
    refine XS.bipush X0.here hx rfl (hb hby d8_19) ?_
    show Steps p.tables e below (s₁.setTop (mkF m 21 #[.val (.int p1)] [(.int (-5 : Int32)), (.int p1)])) _
    refine XS.icmpYes X0.here hx rfl (pc0 := 21) (pc' := 28) rfl (hb hby d8_21) rfl (feq (hn2 : ¬ (p1 = (-5 : Int32)))).2 (by decide) (by decide) ?_
    show Steps p.tables e below (s₁.setTop (mkF m 28 #[.val (.int p1)] [])) _
    refine XS.iloadN X0.here hx rfl (hb hby d8_28) rfl ?_
    show Steps p.tables e below (s₁.setTop (mkF m 29 #[.val (.int p1)] [(.int p1)])) _
    refine XS.bipush X0.here hx rfl (hb hby d8_29) ?_
    show Steps p.tables e below (s₁.setTop (mkF m 31 #[.val (.int p1)] [(.int (-6 : Int32)), (.int p1)])) _
    refine XS.icmpYes X0.here hx rfl (pc0 := 31) (pc' := 38) rfl (hb hby d8_31) rfl (feq (hn3 : ¬ (p1 = (-6 : Int32)))).2 (by decide) (by decide) ?_
    show Steps p.tables e below (s₁.setTop (mkF m 38 #[.val (.int p1)] [])) _
    refine XS.iloadN X0.here hx rfl (hb hby d8_38) rfl ?_
    show Steps p.tables e below (s₁.setTop (mkF m 39 #[.val (.int p1)] [(.int p1)])) _
    refine XS.bipush X0.here hx rfl (hb hby d8_39) ?_
    show Steps p.tables e below (s₁.setTop (mkF m 41 #[.val (.int p1)] [(.int (-8 : Int32)), (.int p1)])) _
    refine XS.icmpYes X0.here hx rfl (pc0 := 41) (pc' := 48) rfl (hb hby d8_41) rfl (feq (hn4 : ¬ (p1 = (-8 : Int32)))).2 (by decide) (by decide) ?_
    show Steps p.tables e below (s₁.setTop (mkF m 48 #[.val (.int p1)] [])) _
    refine XS.iloadN X0.here hx rfl (hb hby d8_48) rfl ?_
    show Steps p.tables e below (s₁.setTop (mkF m 49 #[.val (.int p1)] [(.int p1)])) _
    refine XS.bipush X0.here hx rfl (hb hby d8_49) ?_
    show Steps p.tables e below (s₁.setTop (mkF m 51 #[.val (.int p1)] [(.int (-101 : Int32)), (.int p1)])) _
    refine XS.icmpYes X0.here hx rfl (pc0 := 51) (pc' := 58) rfl (hb hby d8_51) rfl (feq (hn5 : ¬ (p1 = (-101 : Int32)))).2 (by decide) (by decide) ?_
    show Steps p.tables e below (s₁.setTop (mkF m 58 #[.val (.int p1)] [])) _
    refine XS.iloadN X0.here hx rfl (hb hby d8_58) rfl ?_
    show Steps p.tables e below (s₁.setTop (mkF m 59 #[.val (.int p1)] [(.int p1)])) _
    refine XS.bipush X0.here hx rfl (hb hby d8_59) ?_
    show Steps p.tables e below (s₁.setTop (mkF m 61 #[.val (.int p1)] [(.int (-103 : Int32)), (.int p1)])) _
    refine XS.icmpYes X0.here hx rfl (pc0 := 61) (pc' := 68) rfl (hb hby d8_61) rfl (feq (hn6 : ¬ (p1 = (-103 : Int32)))).2 (by decide) (by decide) ?_
    show Steps p.tables e below (s₁.setTop (mkF m 68 #[.val (.int p1)] [])) _
    refine XS.iloadN X0.here hx rfl (hb hby d8_68) rfl ?_
    show Steps p.tables e below (s₁.setTop (mkF m 69 #[.val (.int p1)] [(.int p1)])) _
    refine XS.bipush X0.here hx rfl (hb hby d8_69) ?_
    show Steps p.tables e below (s₁.setTop (mkF m 71 #[.val (.int p1)] [(.int (-108 : Int32)), (.int p1)])) _
    refine XS.icmpYes X0.here hx rfl (pc0 := 71) (pc' := 78) rfl (hb hby d8_71) rfl (feq (hn7 : ¬ (p1 = (-108 : Int32)))).2 (by decide) (by decide) ?_
    show Steps p.tables e below (s₁.setTop (mkF m 78 #[.val (.int p1)] [])) _
    refine XS.iloadN X0.here hx rfl (hb hby d8_78) rfl ?_
    show Steps p.tables e below (s₁.setTop (mkF m 79 #[.val (.int p1)] [(.int p1)])) _
    refine XS.bipush X0.here hx rfl (hb hby d8_79) ?_
    show Steps p.tables e below (s₁.setTop (mkF m 81 #[.val (.int p1)] [(.int (-110 : Int32)), (.int p1)])) _
    refine XS.icmpYes X0.here hx rfl (pc0 := 81) (pc' := 88) rfl (hb hby d8_81) rfl (feq (hn8 : ¬ (p1 = (-110 : Int32)))).2 (by decide) (by decide) ?_
    show Steps p.tables e below (s₁.setTop (mkF m 88 #[.val (.int p1)] [])) _
    refine XS.iloadN X0.here hx rfl (hb hby d8_88) rfl ?_
    show Steps p.tables e below (s₁.setTop (mkF m 89 #[.val (.int p1)] [(.int p1)])) _
    refine XS.bipush X0.here hx rfl (hb hby d8_89) ?_
    show Steps p.tables e below (s₁.setTop (mkF m 91 #[.val (.int p1)] [(.int (-111 : Int32)), (.int p1)])) _
    refine XS.icmpYes X0.here hx rfl (pc0 := 91) (pc' := 98) rfl (hb hby d8_91) rfl (feq (hn9 : ¬ (p1 = (-111 : Int32)))).2 (by decide) (by decide) ?_
    show Steps p.tables e below (s₁.setTop (mkF m 98 #[.val (.int p1)] [])) _
    refine XS.iloadN X0.here hx rfl (hb hby d8_98) rfl ?_
    show Steps p.tables e below (s₁.setTop (mkF m 99 #[.val (.int p1)] [(.int p1)])) _
    refine XS.bipush X0.here hx rfl (hb hby d8_99) ?_
    show Steps p.tables e below (s₁.setTop (mkF m 101 #[.val (.int p1)] [(.int (-112 : Int32)), (.int p1)])) _
    refine XS.icmpYes X0.here hx rfl (pc0 := 101) (pc' := 108) rfl (hb hby d8_101) rfl (feq (hn10 : ¬ (p1 = (-112 : Int32)))).2 (by decide) (by decide) ?_
    show Steps p.tables e below (s₁.setTop (mkF m 108 #[.val (.int p1)] [])) _
    refine XS.aconstNull X0.here hx rfl (hb hby d8_108) ?_
    show Steps p.tables e below (s₁.setTop (mkF m 109 #[.val (.int p1)] [.null])) _
    jvm_step X0.here [X0.here.top, hx, (hb hby d8_109), X0.method', Bd.returns, Value.isRef, FieldType.isReference]
    first | (intro acts; rw [hr _ acts rfl rfl rfl]) | rw [hr _ _ rfl rfl rfl]
    exact Steps.refl _
  · show QP (some .null) h0 n0 _ s₁.heap _
    rw [e0]
    exact ⟨rfl, N0, rfl⟩
theorem d1_93 : decode method_3_code 93 = .ok (.getstatic 40, 3) := by decide +kernel
theorem d1_96 : decode method_3_code 96 = .ok (.areturn, 1) := by decide +kernel
set_option maxRecDepth 65536 in
set_option maxHeartbeats 40000000 in
theorem rm_pkz (l : Launch) (Z : State) (a0 : Array Value) (hw : ∀ d ∈ tables_1, d.before a0 Z = true) (ws : List Jvm.Cond) {w_n5 : Addr} {w_n10 : Addr} {w_OK : Addr} {w_n1 : Addr} {w_n2 : Addr} {w_n4 : Addr} {w_n9 : Addr} {w_n6 : Addr} {w_n0 : Addr} {w_n7 : Addr} {w_n8 : Addr} {w_n3 : Addr} {w_n11 : Addr} {k_n10 : ClassId} (W : Wd Z w_n5 w_n10 w_OK w_n1 w_n2 w_n4 w_n9 w_n6 w_n0 w_n7 w_n8 w_n3 w_n11 k_n10) (p1 : Int32) (h0 : Heap) (n0 : Nat) (O0 : Old Z n0 h0) (hn0 : ¬ (p1 = (0 : Int32))) (hn1 : ¬ (p1 = (1 : Int32))) (hn2 : ¬ (p1 = (2 : Int32))) (hn3 : ¬ (p1 = (3 : Int32))) (hn4 : ¬ (p1 = (4 : Int32))) (hn5 : ¬ (p1 = (5 : Int32))) (hn6 : ¬ (p1 = (6 : Int32))) (hn7 : ¬ (p1 = (7 : Int32))) (hn8 : ¬ (p1 = (8 : Int32))) (hn9 : ¬ (p1 = (9 : Int32))) :
    MetFree l (⟨"com/example/usher/usher/wire/ErrorCodeForCodePinLaw", "pick", "(I)Lcom/example/usher/usher/wire/ErrorCode;"⟩ : MethodName) (head1 (Jvm.Cond.code (⟨"com/example/usher/usher/wire/ErrorCodeForCodePinLaw", "pick", "(I)Lcom/example/usher/usher/wire/ErrorCode;"⟩ : MethodName) method_3_code 1 (some (.object "com/example/usher/usher/wire/ErrorCode")) :: ws) ({ frames := 0, cells := 0, slots := 0, locals := 0 } : Room)) (fun a U => a = #[(.int p1)] ∧ Z.Warmed39 U.vm ∧ U.heap = h0) (fun _ _ _ _ _ => True) (fun _ U o U' => ∃ v L, o = .returned v ∧ QP (some (.ref w_n3)) h0 n0 v U'.heap L ∧ FrameEnd U o U' L ({ frames := 0, cells := 0, slots := 0, locals := 0 } : Room).cells ({ frames := 0, cells := 0, slots := 0, locals := 0 } : Room).slots) := by
  have W' := W; obtain ⟨S_n5, E_n5, S_n10, S_OK, E_OK, S_n1, E_n1, S_n2, E_n2, S_n4, E_n4, S_n9, E_n9, S_n6, E_n6, S_n0, E_n0, S_n7, E_n7, S_n8, E_n8, S_n3, E_n3, S_n11, E_n11, F_OK_code, F_n5_code, F_n1_code, F_n2_code, F_n4_code, F_n9_code, F_n6_code, F_n0_code, F_n7_code, F_n8_code, F_n3_code, F_n11_value, V_n10⟩ := W'
  refine MetFree.of_bodySF (plainFor_of_name pn_1) hisR ?_
  intro p e s m args below meth c s₁ Bd hml0 hP hK
  obtain ⟨rfl, hZ, hh⟩ := hP
  have hx := Bd.exec
  have hby := Bd.bytes
  have hml : c.maxLocals = 1 := hml0
  have hown : s.vm.findClass "com/example/usher/usher/wire/ErrorCodeForCodePinLaw" = some m.cls := findClass_of_methodNamed Bd.named
  have hnm := (name_of_methodNamed Bd.named Bd.method).1
  have X0 : Stand p l e ({ frames := 0, cells := 0, slots := 0, locals := 0 } : Room) s m #[(.int p1)] below meth c s₁ [] 0 0 := Stand.of_body Bd
  have e0 : s₁.heap = h0 := by rw [← hh, Bd.state]; rfl
  have N0 := Fr.nil n0
  have pre0 : ∀ t, Steps p.tables e below (s₁.setTop (mkF m 0 #[.val (.int p1)] [])) t → Steps p.tables e below (s₁.setTop (entryFrame m #[(.int p1)] 1)) t := fun t k => castTop (ef_1_6 m p1) k
  obtain ⟨T1, X1, e1, st1⟩ := getS2 X0 hx hZ hown (host := "") (Or.inl (hw _ (List.mem_of_getElem? (i := 66) rfl))) Via.refl e0 (S_n3.ext O0.2) (g := (mkF m 93 #[.val (.int p1)] [])) rfl (hb hby d1_93)
  obtain ⟨fs, hr, hrun, hended, hW, hsame⟩ := X1.leave (v := some (.ref w_n3)) (fun h => by rw [Bd.returns] at h; cases h)
  refine ⟨_, _, pre0 _ ?_, hrun, hended, _, _, rfl, ?_, ⟨_, rfl⟩, hW, hsame.mono (by decide) (by decide)⟩
  · show Steps p.tables e below (s₁.setTop (mkF m 0 #[.val (.int p1)] [])) _
    refine XS.iloadN X0.here hx rfl (hb hby d1_0) rfl ?_
    show Steps p.tables e below (s₁.setTop (mkF m 1 #[.val (.int p1)] [(.int p1)])) _
    refine XS.ifYes X0.here hx rfl (pc0 := 1) (pc' := 8) rfl (hb hby d1_1) rfl ((if0 _ _).trans (feq (hn0 : ¬ (p1 = (0 : Int32)))).2) (by decide) (by decide) ?_
    show Steps p.tables e below (s₁.setTop (mkF m 8 #[.val (.int p1)] [])) _
    refine XS.iloadN X0.here hx rfl (hb hby d1_8) rfl ?_
    show Steps p.tables e below (s₁.setTop (mkF m 9 #[.val (.int p1)] [(.int p1)])) _
    refine XS.iconst X0.here hx rfl (hb hby d1_9) ?_
    show Steps p.tables e below (s₁.setTop (mkF m 10 #[.val (.int p1)] [(.int (1 : Int32)), (.int p1)])) _
    refine XS.icmpYes X0.here hx rfl (pc0 := 10) (pc' := 17) rfl (hb hby d1_10) rfl (feq (hn1 : ¬ (p1 = (1 : Int32)))).2 (by decide) (by decide) ?_
    show Steps p.tables e below (s₁.setTop (mkF m 17 #[.val (.int p1)] [])) _
    refine XS.iloadN X0.here hx rfl (hb hby d1_17) rfl ?_
    show Steps p.tables e below (s₁.setTop (mkF m 18 #[.val (.int p1)] [(.int p1)])) _
    refine XS.iconst X0.here hx rfl (hb hby d1_18) ?_
    show Steps p.tables e below (s₁.setTop (mkF m 19 #[.val (.int p1)] [(.int (2 : Int32)), (.int p1)])) _
    refine XS.icmpYes X0.here hx rfl (pc0 := 19) (pc' := 26) rfl (hb hby d1_19) rfl (feq (hn2 : ¬ (p1 = (2 : Int32)))).2 (by decide) (by decide) ?_
    show Steps p.tables e below (s₁.setTop (mkF m 26 #[.val (.int p1)] [])) _
    refine XS.iloadN X0.here hx rfl (hb hby d1_26) rfl ?_
    show Steps p.tables e below (s₁.setTop (mkF m 27 #[.val (.int p1)] [(.int p1)])) _
    refine XS.iconst X0.here hx rfl (hb hby d1_27) ?_
    show Steps p.tables e below (s₁.setTop (mkF m 28 #[.val (.int p1)] [(.int (3 : Int32)), (.int p1)])) _
    refine XS.icmpYes X0.here hx rfl (pc0 := 28) (pc' := 35) rfl (hb hby d1_28) rfl (feq (hn3 : ¬ (p1 = (3 : Int32)))).2 (by decide) (by decide) ?_
    show Steps p.tables e below (s₁.setTop (mkF m 35 #[.val (.int p1)] [])) _
    refine XS.iloadN X0.here hx rfl (hb hby d1_35) rfl ?_
    show Steps p.tables e below (s₁.setTop (mkF m 36 #[.val (.int p1)] [(.int p1)])) _
    refine XS.iconst X0.here hx rfl (hb hby d1_36) ?_
    show Steps p.tables e below (s₁.setTop (mkF m 37 #[.val (.int p1)] [(.int (4 : Int32)), (.int p1)])) _
    refine XS.icmpYes X0.here hx rfl (pc0 := 37) (pc' := 44) rfl (hb hby d1_37) rfl (feq (hn4 : ¬ (p1 = (4 : Int32)))).2 (by decide) (by decide) ?_
    show Steps p.tables e below (s₁.setTop (mkF m 44 #[.val (.int p1)] [])) _
    refine XS.iloadN X0.here hx rfl (hb hby d1_44) rfl ?_
    show Steps p.tables e below (s₁.setTop (mkF m 45 #[.val (.int p1)] [(.int p1)])) _
    refine XS.iconst X0.here hx rfl (hb hby d1_45) ?_
    show Steps p.tables e below (s₁.setTop (mkF m 46 #[.val (.int p1)] [(.int (5 : Int32)), (.int p1)])) _
    refine XS.icmpYes X0.here hx rfl (pc0 := 46) (pc' := 53) rfl (hb hby d1_46) rfl (feq (hn5 : ¬ (p1 = (5 : Int32)))).2 (by decide) (by decide) ?_
    show Steps p.tables e below (s₁.setTop (mkF m 53 #[.val (.int p1)] [])) _
    refine XS.iloadN X0.here hx rfl (hb hby d1_53) rfl ?_
    show Steps p.tables e below (s₁.setTop (mkF m 54 #[.val (.int p1)] [(.int p1)])) _
    refine XS.bipush X0.here hx rfl (hb hby d1_54) ?_
    show Steps p.tables e below (s₁.setTop (mkF m 56 #[.val (.int p1)] [(.int (6 : Int32)), (.int p1)])) _
    refine XS.icmpYes X0.here hx rfl (pc0 := 56) (pc' := 63) rfl (hb hby d1_56) rfl (feq (hn6 : ¬ (p1 = (6 : Int32)))).2 (by decide) (by decide) ?_
    show Steps p.tables e below (s₁.setTop (mkF m 63 #[.val (.int p1)] [])) _
    refine XS.iloadN X0.here hx rfl (hb hby d1_63) rfl ?_
    show Steps p.tables e below (s₁.setTop (mkF m 64 #[.val (.int p1)] [(.int p1)])) _
    refine XS.bipush X0.here hx rfl (hb hby d1_64) ?_
    show Steps p.tables e below (s₁.setTop (mkF m 66 #[.val (.int p1)] [(.int (7 : Int32)), (.int p1)])) _
    refine XS.icmpYes X0.here hx rfl (pc0 := 66) (pc' := 73) rfl (hb hby d1_66) rfl (feq (hn7 : ¬ (p1 = (7 : Int32)))).2 (by decide) (by decide) ?_
    show Steps p.tables e below (s₁.setTop (mkF m 73 #[.val (.int p1)] [])) _
    refine XS.iloadN X0.here hx rfl (hb hby d1_73) rfl ?_
    show Steps p.tables e below (s₁.setTop (mkF m 74 #[.val (.int p1)] [(.int p1)])) _
    refine XS.bipush X0.here hx rfl (hb hby d1_74) ?_
    show Steps p.tables e below (s₁.setTop (mkF m 76 #[.val (.int p1)] [(.int (8 : Int32)), (.int p1)])) _
    refine XS.icmpYes X0.here hx rfl (pc0 := 76) (pc' := 83) rfl (hb hby d1_76) rfl (feq (hn8 : ¬ (p1 = (8 : Int32)))).2 (by decide) (by decide) ?_
    show Steps p.tables e below (s₁.setTop (mkF m 83 #[.val (.int p1)] [])) _
    refine XS.iloadN X0.here hx rfl (hb hby d1_83) rfl ?_
    show Steps p.tables e below (s₁.setTop (mkF m 84 #[.val (.int p1)] [(.int p1)])) _
    refine XS.bipush X0.here hx rfl (hb hby d1_84) ?_
    show Steps p.tables e below (s₁.setTop (mkF m 86 #[.val (.int p1)] [(.int (9 : Int32)), (.int p1)])) _
    refine XS.icmpYes X0.here hx rfl (pc0 := 86) (pc' := 93) rfl (hb hby d1_86) rfl (feq (hn9 : ¬ (p1 = (9 : Int32)))).2 (by decide) (by decide) ?_
    show Steps p.tables e below (s₁.setTop (mkF m 93 #[.val (.int p1)] [])) _
    refine st1 _ ?_
    show Steps p.tables e below (T1.setTop (mkF m 96 #[.val (.int p1)] [(.ref w_n3)])) _
    jvm_step X1.here [X1.here.top, hx, (hb hby d1_96), X1.method', Bd.returns, Value.isRef, FieldType.isReference]
    first | (intro acts; rw [hr _ acts rfl rfl rfl]) | rw [hr _ _ rfl rfl rfl]
    exact Steps.refl _
  · show QP (some (.ref w_n3)) h0 n0 _ T1.heap _
    rw [e1]
    exact ⟨rfl, N0, rfl⟩
theorem rm_fcr (l : Launch) (Z : State) (a0 : Array Value) (hw : ∀ d ∈ tables_1, d.before a0 Z = true) (ws : List Jvm.Cond) {w_n5 : Addr} {w_n10 : Addr} {w_OK : Addr} {w_n1 : Addr} {w_n2 : Addr} {w_n4 : Addr} {w_n9 : Addr} {w_n6 : Addr} {w_n0 : Addr} {w_n7 : Addr} {w_n8 : Addr} {w_n3 : Addr} {w_n11 : Addr} {k_n10 : ClassId} (W : Wd Z w_n5 w_n10 w_OK w_n1 w_n2 w_n4 w_n9 w_n6 w_n0 w_n7 w_n8 w_n3 w_n11 k_n10) (p1 : Int32) (u : Addr) (h0 : Heap) (n0 : Nat) (O0 : Old Z n0 h0) (hx : exC w_OK w_n1 w_n2 w_n5 w_n4 w_n9 w_n6 w_n0 w_n7 w_n8 w_n3 p1 = .ref u) :
    MetFree l (⟨"com/example/usher/usher/wire/ErrorCode", "forCode", "(I)Ljava/util/Optional;"⟩ : MethodName) (head1 (Jvm.Cond.code (⟨"com/example/usher/usher/wire/ErrorCode", "forCode", "(I)Ljava/util/Optional;"⟩ : MethodName) prog_14_method_5_code 5 (some (.object "java/util/Optional")) :: ws) ({ frames := 3, cells := 1, slots := 1, locals := 38 } : Room)) (fun a U => a = #[(.int p1)] ∧ Z.Warmed39 U.vm ∧ U.heap = h0) (fun _ _ _ _ _ => True) (fun _ U o U' => ∃ v L, o = .returned v ∧ QW (fun v h => ∃ b : Addr, v = some (.ref b) ∧ Keep h0 h [] ∧ n0 ≤ b ∧ h0.size ≤ b ∧ Exa Z h b "java/util/Optional" ∧ Fld Z h b "java/util/Optional" "value" "Ljava/lang/Object;" (.ref u)) n0 v U'.heap L ∧ FrameEnd U o U' L ({ frames := 3, cells := 1, slots := 1, locals := 38 } : Room).cells ({ frames := 3, cells := 1, slots := 1, locals := 38 } : Room).slots) := by
  by_cases hn0 : p1 = (0 : Int32)
  · subst hn0
    obtain rfl : w_OK = u := by simpa [exC] using hx
    exact rm_fc0 l Z a0 hw ws W h0 n0 O0
  by_cases hn1 : p1 = (-2 : Int32)
  · subst hn1
    obtain rfl : w_n1 = u := by simpa [exC] using hx
    exact rm_fc1 l Z a0 hw ws W h0 n0 O0
  by_cases hn2 : p1 = (-5 : Int32)
  · subst hn2
    obtain rfl : w_n2 = u := by simpa [exC] using hx
    exact rm_fc2 l Z a0 hw ws W h0 n0 O0
  by_cases hn3 : p1 = (-6 : Int32)
  · subst hn3
    obtain rfl : w_n5 = u := by simpa [exC] using hx
    exact rm_fc3 l Z a0 hw ws W h0 n0 O0
  by_cases hn4 : p1 = (-8 : Int32)
  · subst hn4
    obtain rfl : w_n4 = u := by simpa [exC] using hx
    exact rm_fc4 l Z a0 hw ws W h0 n0 O0
  by_cases hn5 : p1 = (-101 : Int32)
  · subst hn5
    obtain rfl : w_n9 = u := by simpa [exC] using hx
    exact rm_fc5 l Z a0 hw ws W h0 n0 O0
  by_cases hn6 : p1 = (-103 : Int32)
  · subst hn6
    obtain rfl : w_n6 = u := by simpa [exC] using hx
    exact rm_fc6 l Z a0 hw ws W h0 n0 O0
  by_cases hn7 : p1 = (-108 : Int32)
  · subst hn7
    obtain rfl : w_n0 = u := by simpa [exC] using hx
    exact rm_fc7 l Z a0 hw ws W h0 n0 O0
  by_cases hn8 : p1 = (-110 : Int32)
  · subst hn8
    obtain rfl : w_n7 = u := by simpa [exC] using hx
    exact rm_fc8 l Z a0 hw ws W h0 n0 O0
  by_cases hn9 : p1 = (-111 : Int32)
  · subst hn9
    obtain rfl : w_n8 = u := by simpa [exC] using hx
    exact rm_fc9 l Z a0 hw ws W h0 n0 O0
  by_cases hn10 : p1 = (-112 : Int32)
  · subst hn10
    obtain rfl : w_n3 = u := by simpa [exC] using hx
    exact rm_fc10 l Z a0 hw ws W h0 n0 O0
  simp [exC, hn0, hn1, hn2, hn3, hn4, hn5, hn6, hn7, hn8, hn9, hn10] at hx
theorem rm_fcn (l : Launch) (Z : State) (a0 : Array Value) (hw : ∀ d ∈ tables_1, d.before a0 Z = true) (ws : List Jvm.Cond) {w_n5 : Addr} {w_n10 : Addr} {w_OK : Addr} {w_n1 : Addr} {w_n2 : Addr} {w_n4 : Addr} {w_n9 : Addr} {w_n6 : Addr} {w_n0 : Addr} {w_n7 : Addr} {w_n8 : Addr} {w_n3 : Addr} {w_n11 : Addr} {k_n10 : ClassId} (W : Wd Z w_n5 w_n10 w_OK w_n1 w_n2 w_n4 w_n9 w_n6 w_n0 w_n7 w_n8 w_n3 w_n11 k_n10) (p1 : Int32) (h0 : Heap) (n0 : Nat) (O0 : Old Z n0 h0) (hx : exC w_OK w_n1 w_n2 w_n5 w_n4 w_n9 w_n6 w_n0 w_n7 w_n8 w_n3 p1 = .null) :
    MetFree l (⟨"com/example/usher/usher/wire/ErrorCode", "forCode", "(I)Ljava/util/Optional;"⟩ : MethodName) (head1 (Jvm.Cond.code (⟨"com/example/usher/usher/wire/ErrorCode", "forCode", "(I)Ljava/util/Optional;"⟩ : MethodName) prog_14_method_5_code 5 (some (.object "java/util/Optional")) :: ws) ({ frames := 1, cells := 0, slots := 0, locals := 12 } : Room)) (fun a U => a = #[(.int p1)] ∧ Z.Warmed39 U.vm ∧ U.heap = h0) (fun _ _ _ _ _ => True) (fun _ U o U' => ∃ v L, o = .returned v ∧ QP (some (.ref w_n11)) h0 n0 v U'.heap L ∧ FrameEnd U o U' L ({ frames := 1, cells := 0, slots := 0, locals := 12 } : Room).cells ({ frames := 1, cells := 0, slots := 0, locals := 12 } : Room).slots) := by
  by_cases hn0 : p1 = (0 : Int32)
  · subst hn0; simp [exC] at hx
  by_cases hn1 : p1 = (-2 : Int32)
  · subst hn1; simp [exC] at hx
  by_cases hn2 : p1 = (-5 : Int32)
  · subst hn2; simp [exC] at hx
  by_cases hn3 : p1 = (-6 : Int32)
  · subst hn3; simp [exC] at hx
  by_cases hn4 : p1 = (-8 : Int32)
  · subst hn4; simp [exC] at hx
  by_cases hn5 : p1 = (-101 : Int32)
  · subst hn5; simp [exC] at hx
  by_cases hn6 : p1 = (-103 : Int32)
  · subst hn6; simp [exC] at hx
  by_cases hn7 : p1 = (-108 : Int32)
  · subst hn7; simp [exC] at hx
  by_cases hn8 : p1 = (-110 : Int32)
  · subst hn8; simp [exC] at hx
  by_cases hn9 : p1 = (-111 : Int32)
  · subst hn9; simp [exC] at hx
  by_cases hn10 : p1 = (-112 : Int32)
  · subst hn10; simp [exC] at hx
  exact rm_fcz l Z a0 hw ws W p1 h0 n0 O0 hn0 hn1 hn2 hn3 hn4 hn5 hn6 hn7 hn8 hn9 hn10
theorem rm_exr (l : Launch) (Z : State) (a0 : Array Value) (hw : ∀ d ∈ tables_1, d.before a0 Z = true) (ws : List Jvm.Cond) {w_n5 : Addr} {w_n10 : Addr} {w_OK : Addr} {w_n1 : Addr} {w_n2 : Addr} {w_n4 : Addr} {w_n9 : Addr} {w_n6 : Addr} {w_n0 : Addr} {w_n7 : Addr} {w_n8 : Addr} {w_n3 : Addr} {w_n11 : Addr} {k_n10 : ClassId} (W : Wd Z w_n5 w_n10 w_OK w_n1 w_n2 w_n4 w_n9 w_n6 w_n0 w_n7 w_n8 w_n3 w_n11 k_n10) (p1 : Int32) (u : Addr) (h0 : Heap) (n0 : Nat) (O0 : Old Z n0 h0) (hx : exC w_OK w_n1 w_n2 w_n5 w_n4 w_n9 w_n6 w_n0 w_n7 w_n8 w_n3 p1 = .ref u) :
    MetFree l (⟨"com/example/usher/usher/wire/ErrorCodeForCodePinLaw", "expected", "(I)Lcom/example/usher/usher/wire/ErrorCode;"⟩ : MethodName) (head1 (Jvm.Cond.code (⟨"com/example/usher/usher/wire/ErrorCodeForCodePinLaw", "expected", "(I)Lcom/example/usher/usher/wire/ErrorCode;"⟩ : MethodName) method_2_code 1 (some (.object "com/example/usher/usher/wire/ErrorCode")) :: ws) ({ frames := 0, cells := 0, slots := 0, locals := 0 } : Room)) (fun a U => a = #[(.int p1)] ∧ Z.Warmed39 U.vm ∧ U.heap = h0) (fun _ _ _ _ _ => True) (fun _ U o U' => ∃ v L, o = .returned v ∧ QP (some (.ref u)) h0 n0 v U'.heap L ∧ FrameEnd U o U' L ({ frames := 0, cells := 0, slots := 0, locals := 0 } : Room).cells ({ frames := 0, cells := 0, slots := 0, locals := 0 } : Room).slots) := by
  by_cases hn0 : p1 = (0 : Int32)
  · subst hn0
    obtain rfl : w_OK = u := by simpa [exC] using hx
    exact rm_ex0 l Z a0 hw ws W h0 n0 O0
  by_cases hn1 : p1 = (-2 : Int32)
  · subst hn1
    obtain rfl : w_n1 = u := by simpa [exC] using hx
    exact rm_ex1 l Z a0 hw ws W h0 n0 O0
  by_cases hn2 : p1 = (-5 : Int32)
  · subst hn2
    obtain rfl : w_n2 = u := by simpa [exC] using hx
    exact rm_ex2 l Z a0 hw ws W h0 n0 O0
  by_cases hn3 : p1 = (-6 : Int32)
  · subst hn3
    obtain rfl : w_n5 = u := by simpa [exC] using hx
    exact rm_ex3 l Z a0 hw ws W h0 n0 O0
  by_cases hn4 : p1 = (-8 : Int32)
  · subst hn4
    obtain rfl : w_n4 = u := by simpa [exC] using hx
    exact rm_ex4 l Z a0 hw ws W h0 n0 O0
  by_cases hn5 : p1 = (-101 : Int32)
  · subst hn5
    obtain rfl : w_n9 = u := by simpa [exC] using hx
    exact rm_ex5 l Z a0 hw ws W h0 n0 O0
  by_cases hn6 : p1 = (-103 : Int32)
  · subst hn6
    obtain rfl : w_n6 = u := by simpa [exC] using hx
    exact rm_ex6 l Z a0 hw ws W h0 n0 O0
  by_cases hn7 : p1 = (-108 : Int32)
  · subst hn7
    obtain rfl : w_n0 = u := by simpa [exC] using hx
    exact rm_ex7 l Z a0 hw ws W h0 n0 O0
  by_cases hn8 : p1 = (-110 : Int32)
  · subst hn8
    obtain rfl : w_n7 = u := by simpa [exC] using hx
    exact rm_ex8 l Z a0 hw ws W h0 n0 O0
  by_cases hn9 : p1 = (-111 : Int32)
  · subst hn9
    obtain rfl : w_n8 = u := by simpa [exC] using hx
    exact rm_ex9 l Z a0 hw ws W h0 n0 O0
  by_cases hn10 : p1 = (-112 : Int32)
  · subst hn10
    obtain rfl : w_n3 = u := by simpa [exC] using hx
    exact rm_ex10 l Z a0 hw ws W h0 n0 O0
  simp [exC, hn0, hn1, hn2, hn3, hn4, hn5, hn6, hn7, hn8, hn9, hn10] at hx
theorem rm_exn (l : Launch) (Z : State) (a0 : Array Value) (hw : ∀ d ∈ tables_1, d.before a0 Z = true) (ws : List Jvm.Cond) {w_n5 : Addr} {w_n10 : Addr} {w_OK : Addr} {w_n1 : Addr} {w_n2 : Addr} {w_n4 : Addr} {w_n9 : Addr} {w_n6 : Addr} {w_n0 : Addr} {w_n7 : Addr} {w_n8 : Addr} {w_n3 : Addr} {w_n11 : Addr} {k_n10 : ClassId} (W : Wd Z w_n5 w_n10 w_OK w_n1 w_n2 w_n4 w_n9 w_n6 w_n0 w_n7 w_n8 w_n3 w_n11 k_n10) (p1 : Int32) (h0 : Heap) (n0 : Nat) (O0 : Old Z n0 h0) (hx : exC w_OK w_n1 w_n2 w_n5 w_n4 w_n9 w_n6 w_n0 w_n7 w_n8 w_n3 p1 = .null) :
    MetFree l (⟨"com/example/usher/usher/wire/ErrorCodeForCodePinLaw", "expected", "(I)Lcom/example/usher/usher/wire/ErrorCode;"⟩ : MethodName) (head1 (Jvm.Cond.code (⟨"com/example/usher/usher/wire/ErrorCodeForCodePinLaw", "expected", "(I)Lcom/example/usher/usher/wire/ErrorCode;"⟩ : MethodName) method_2_code 1 (some (.object "com/example/usher/usher/wire/ErrorCode")) :: ws) ({ frames := 0, cells := 0, slots := 0, locals := 0 } : Room)) (fun a U => a = #[(.int p1)] ∧ Z.Warmed39 U.vm ∧ U.heap = h0) (fun _ _ _ _ _ => True) (fun _ U o U' => ∃ v L, o = .returned v ∧ QP (some .null) h0 n0 v U'.heap L ∧ FrameEnd U o U' L ({ frames := 0, cells := 0, slots := 0, locals := 0 } : Room).cells ({ frames := 0, cells := 0, slots := 0, locals := 0 } : Room).slots) := by
  by_cases hn0 : p1 = (0 : Int32)
  · subst hn0; simp [exC] at hx
  by_cases hn1 : p1 = (-2 : Int32)
  · subst hn1; simp [exC] at hx
  by_cases hn2 : p1 = (-5 : Int32)
  · subst hn2; simp [exC] at hx
  by_cases hn3 : p1 = (-6 : Int32)
  · subst hn3; simp [exC] at hx
  by_cases hn4 : p1 = (-8 : Int32)
  · subst hn4; simp [exC] at hx
  by_cases hn5 : p1 = (-101 : Int32)
  · subst hn5; simp [exC] at hx
  by_cases hn6 : p1 = (-103 : Int32)
  · subst hn6; simp [exC] at hx
  by_cases hn7 : p1 = (-108 : Int32)
  · subst hn7; simp [exC] at hx
  by_cases hn8 : p1 = (-110 : Int32)
  · subst hn8; simp [exC] at hx
  by_cases hn9 : p1 = (-111 : Int32)
  · subst hn9; simp [exC] at hx
  by_cases hn10 : p1 = (-112 : Int32)
  · subst hn10; simp [exC] at hx
  exact rm_exz l Z a0 hw ws W p1 h0 n0 O0 hn0 hn1 hn2 hn3 hn4 hn5 hn6 hn7 hn8 hn9 hn10
theorem rm_pk (l : Launch) (Z : State) (a0 : Array Value) (hw : ∀ d ∈ tables_1, d.before a0 Z = true) (ws : List Jvm.Cond) {w_n5 : Addr} {w_n10 : Addr} {w_OK : Addr} {w_n1 : Addr} {w_n2 : Addr} {w_n4 : Addr} {w_n9 : Addr} {w_n6 : Addr} {w_n0 : Addr} {w_n7 : Addr} {w_n8 : Addr} {w_n3 : Addr} {w_n11 : Addr} {k_n10 : ClassId} (W : Wd Z w_n5 w_n10 w_OK w_n1 w_n2 w_n4 w_n9 w_n6 w_n0 w_n7 w_n8 w_n3 w_n11 k_n10) (p1 : Int32) (u : Addr) (h0 : Heap) (n0 : Nat) (O0 : Old Z n0 h0) (hx : pkC w_OK w_n1 w_n2 w_n5 w_n4 w_n9 w_n6 w_n0 w_n7 w_n8 w_n3 p1 = u) :
    MetFree l (⟨"com/example/usher/usher/wire/ErrorCodeForCodePinLaw", "pick", "(I)Lcom/example/usher/usher/wire/ErrorCode;"⟩ : MethodName) (head1 (Jvm.Cond.code (⟨"com/example/usher/usher/wire/ErrorCodeForCodePinLaw", "pick", "(I)Lcom/example/usher/usher/wire/ErrorCode;"⟩ : MethodName) method_3_code 1 (some (.object "com/example/usher/usher/wire/ErrorCode")) :: ws) ({ frames := 0, cells := 0, slots := 0, locals := 0 } : Room)) (fun a U => a = #[(.int p1)] ∧ Z.Warmed39 U.vm ∧ U.heap = h0) (fun _ _ _ _ _ => True) (fun _ U o U' => ∃ v L, o = .returned v ∧ QP (some (.ref u)) h0 n0 v U'.heap L ∧ FrameEnd U o U' L ({ frames := 0, cells := 0, slots := 0, locals := 0 } : Room).cells ({ frames := 0, cells := 0, slots := 0, locals := 0 } : Room).slots) := by
  by_cases hn0 : p1 = (0 : Int32)
  · subst hn0
    obtain rfl : w_OK = u := by simpa [pkC] using hx
    exact rm_pk0 l Z a0 hw ws W h0 n0 O0
  by_cases hn1 : p1 = (1 : Int32)
  · subst hn1
    obtain rfl : w_n1 = u := by simpa [pkC] using hx
    exact rm_pk1 l Z a0 hw ws W h0 n0 O0
  by_cases hn2 : p1 = (2 : Int32)
  · subst hn2
    obtain rfl : w_n2 = u := by simpa [pkC] using hx
    exact rm_pk2 l Z a0 hw ws W h0 n0 O0
  by_cases hn3 : p1 = (3 : Int32)
  · subst hn3
    obtain rfl : w_n5 = u := by simpa [pkC] using hx
    exact rm_pk3 l Z a0 hw ws W h0 n0 O0
  by_cases hn4 : p1 = (4 : Int32)
  · subst hn4
    obtain rfl : w_n4 = u := by simpa [pkC] using hx
    exact rm_pk4 l Z a0 hw ws W h0 n0 O0
  by_cases hn5 : p1 = (5 : Int32)
  · subst hn5
    obtain rfl : w_n9 = u := by simpa [pkC] using hx
    exact rm_pk5 l Z a0 hw ws W h0 n0 O0
  by_cases hn6 : p1 = (6 : Int32)
  · subst hn6
    obtain rfl : w_n6 = u := by simpa [pkC] using hx
    exact rm_pk6 l Z a0 hw ws W h0 n0 O0
  by_cases hn7 : p1 = (7 : Int32)
  · subst hn7
    obtain rfl : w_n0 = u := by simpa [pkC] using hx
    exact rm_pk7 l Z a0 hw ws W h0 n0 O0
  by_cases hn8 : p1 = (8 : Int32)
  · subst hn8
    obtain rfl : w_n7 = u := by simpa [pkC] using hx
    exact rm_pk8 l Z a0 hw ws W h0 n0 O0
  by_cases hn9 : p1 = (9 : Int32)
  · subst hn9
    obtain rfl : w_n8 = u := by simpa [pkC] using hx
    exact rm_pk9 l Z a0 hw ws W h0 n0 O0
  obtain rfl : w_n3 = u := by simpa [pkC, hn0, hn1, hn2, hn3, hn4, hn5, hn6, hn7, hn8, hn9] using hx
  exact rm_pkz l Z a0 hw ws W p1 h0 n0 O0 hn0 hn1 hn2 hn3 hn4 hn5 hn6 hn7 hn8 hn9
theorem d7_0 : decode prog_14_method_4_code 0 = .ok (.aload_n 0, 1) := by decide +kernel
theorem d7_1 : decode prog_14_method_4_code 1 = .ok (.getfield 56, 3) := by decide +kernel
theorem d7_4 : decode prog_14_method_4_code 4 = .ok (.ireturn, 1) := by decide +kernel
theorem ef_7_7 (m : MethodId) (x0 : Addr) : entryFrame m #[(.ref x0)] 1 = mkF m 0 #[.val (.ref x0)] [] := by first | (simp [entryFrame, mkF, argsToLocals, Value.category]; done) | rfl
theorem pn_7 : plainName "com/example/usher/usher/wire/ErrorCode" = true := by first | (simp [plainName, overriddenIn]; done) | decide +kernel
set_option maxRecDepth 65536 in
set_option maxHeartbeats 40000000 in
theorem rm_cod (l : Launch) (Z : State) (a0 : Array Value) (hw : ∀ d ∈ tables_1, d.before a0 Z = true) (ws : List Jvm.Cond) {w_n5 : Addr} {w_n10 : Addr} {w_OK : Addr} {w_n1 : Addr} {w_n2 : Addr} {w_n4 : Addr} {w_n9 : Addr} {w_n6 : Addr} {w_n0 : Addr} {w_n7 : Addr} {w_n8 : Addr} {w_n3 : Addr} {w_n11 : Addr} {k_n10 : ClassId} (W : Wd Z w_n5 w_n10 w_OK w_n1 w_n2 w_n4 w_n9 w_n6 w_n0 w_n7 w_n8 w_n3 w_n11 k_n10) (a1 : Addr) (cd : Int32) (h0 : Heap) (n0 : Nat) (O0 : Old Z n0 h0) (hf0 : Fld Z h0 a1 "com/example/usher/usher/wire/ErrorCode" "code" "I" (.int cd)) :
    MetFree l (⟨"com/example/usher/usher/wire/ErrorCode", "code", "()I"⟩ : MethodName) (head1 (Jvm.Cond.code (⟨"com/example/usher/usher/wire/ErrorCode", "code", "()I"⟩ : MethodName) prog_14_method_4_code 1 (some .int) :: ws) ({ frames := 0, cells := 0, slots := 0, locals := 0 } : Room)) (fun a U => a = #[(.ref a1)] ∧ Z.Warmed39 U.vm ∧ U.heap = h0) (fun _ _ _ _ _ => True) (fun _ U o U' => ∃ v L, o = .returned v ∧ QP (some (.int cd)) h0 n0 v U'.heap L ∧ FrameEnd U o U' L ({ frames := 0, cells := 0, slots := 0, locals := 0 } : Room).cells ({ frames := 0, cells := 0, slots := 0, locals := 0 } : Room).slots) := by
  have W' := W; obtain ⟨S_n5, E_n5, S_n10, S_OK, E_OK, S_n1, E_n1, S_n2, E_n2, S_n4, E_n4, S_n9, E_n9, S_n6, E_n6, S_n0, E_n0, S_n7, E_n7, S_n8, E_n8, S_n3, E_n3, S_n11, E_n11, F_OK_code, F_n5_code, F_n1_code, F_n2_code, F_n4_code, F_n9_code, F_n6_code, F_n0_code, F_n7_code, F_n8_code, F_n3_code, F_n11_value, V_n10⟩ := W'
  refine MetFree.of_bodySF (plainFor_of_name pn_7) hisR ?_
  intro p e s m args below meth c s₁ Bd hml0 hP hK
  obtain ⟨rfl, hZ, hh⟩ := hP
  have hx := Bd.exec
  have hby := Bd.bytes
  have hml : c.maxLocals = 1 := hml0
  have hown : s.vm.findClass "com/example/usher/usher/wire/ErrorCode" = some m.cls := findClass_of_methodNamed Bd.named
  have hnm := (name_of_methodNamed Bd.named Bd.method).1
  have X0 : Stand p l e ({ frames := 0, cells := 0, slots := 0, locals := 0 } : Room) s m #[(.ref a1)] below meth c s₁ [] 0 0 := Stand.of_body Bd
  have e0 : s₁.heap = h0 := by rw [← hh, Bd.state]; rfl
  have N0 := Fr.nil n0
  have pre0 : ∀ t, Steps p.tables e below (s₁.setTop (mkF m 0 #[.val (.ref a1)] [])) t → Steps p.tables e below (s₁.setTop (entryFrame m #[(.ref a1)] 1)) t := fun t k => castTop (ef_7_7 m a1) k
  obtain ⟨T1, X1, e1, st1⟩ := getF X0 hx hZ hown (host := "") (Or.inl (hw _ (List.mem_of_getElem? (i := 14) rfl))) Via.refl e0 hf0 (g := (mkF m 1 #[.val (.ref a1)] [(.ref a1)])) rfl rfl (hb hby d7_1)
  obtain ⟨fs, hr, hrun, hended, hW, hsame⟩ := X1.leave (v := some (.int cd)) (fun h => by rw [Bd.returns] at h; cases h)
  refine ⟨_, _, pre0 _ ?_, hrun, hended, _, _, rfl, ?_, ⟨_, rfl⟩, hW, hsame.mono (by decide) (by decide)⟩
  · show Steps p.tables e below (s₁.setTop (mkF m 0 #[.val (.ref a1)] [])) _
    refine XS.aloadN X0.here hx rfl (hb hby d7_0) rfl rfl ?_
    show Steps p.tables e below (s₁.setTop (mkF m 1 #[.val (.ref a1)] [(.ref a1)])) _
    refine st1 _ ?_
    show Steps p.tables e below (T1.setTop (mkF m 4 #[.val (.ref a1)] [(.int cd)])) _
    exact retI X1 hx Bd.returns (hb hby d7_4) hr
  · show QP (some (.int cd)) h0 n0 _ T1.heap _
    rw [e1]
    exact ⟨rfl, N0, rfl⟩
theorem d10_0 : decode jdk_32_method_15_code 0 = .ok (.aload_n 0, 1) := by decide +kernel
theorem d10_1 : decode jdk_32_method_15_code 1 = .ok (.getfield 13, 3) := by decide +kernel
theorem d10_4 : decode jdk_32_method_15_code 4 = .ok (.ifnull 10, 3) := by decide +kernel
theorem d10_7 : decode jdk_32_method_15_code 7 = .ok (.aload_n 0, 1) := by decide +kernel
theorem d10_8 : decode jdk_32_method_15_code 8 = .ok (.getfield 13, 3) := by decide +kernel
theorem d10_11 : decode jdk_32_method_15_code 11 = .ok (.goto 4, 3) := by decide +kernel
theorem d10_15 : decode jdk_32_method_15_code 15 = .ok (.areturn, 1) := by decide +kernel
theorem ef_10_8 (m : MethodId) (x0 : Addr) : entryFrame m #[(.ref x0), .null] 2 = mkF m 0 #[.val (.ref x0), .val .null] [] := by first | (simp [entryFrame, mkF, argsToLocals, Value.category]; done) | rfl
theorem pn_10 : plainName "java/util/Optional" = true := by first | (simp [plainName, overriddenIn]; done) | decide +kernel
set_option maxRecDepth 65536 in
set_option maxHeartbeats 40000000 in
theorem rm_orr (l : Launch) (Z : State) (a0 : Array Value) (hw : ∀ d ∈ tables_1, d.before a0 Z = true) (ws : List Jvm.Cond) {w_n5 : Addr} {w_n10 : Addr} {w_OK : Addr} {w_n1 : Addr} {w_n2 : Addr} {w_n4 : Addr} {w_n9 : Addr} {w_n6 : Addr} {w_n0 : Addr} {w_n7 : Addr} {w_n8 : Addr} {w_n3 : Addr} {w_n11 : Addr} {k_n10 : ClassId} (W : Wd Z w_n5 w_n10 w_OK w_n1 w_n2 w_n4 w_n9 w_n6 w_n0 w_n7 w_n8 w_n3 w_n11 k_n10) (a1 : Addr) (a3 : Addr) (h0 : Heap) (n0 : Nat) (O0 : Old Z n0 h0) (hf0 : Fld Z h0 a1 "java/util/Optional" "value" "Ljava/lang/Object;" (.ref a3)) :
    MetFree l (⟨"java/util/Optional", "orElse", "(Ljava/lang/Object;)Ljava/lang/Object;"⟩ : MethodName) (head1 (Jvm.Cond.code (⟨"java/util/Optional", "orElse", "(Ljava/lang/Object;)Ljava/lang/Object;"⟩ : MethodName) jdk_32_method_15_code 2 (some (.object "java/lang/Object")) :: ws) ({ frames := 0, cells := 0, slots := 0, locals := 0 } : Room)) (fun a U => a = #[(.ref a1), .null] ∧ Z.Warmed39 U.vm ∧ U.heap = h0) (fun _ _ _ _ _ => True) (fun _ U o U' => ∃ v L, o = .returned v ∧ QP (some (.ref a3)) h0 n0 v U'.heap L ∧ FrameEnd U o U' L ({ frames := 0, cells := 0, slots := 0, locals := 0 } : Room).cells ({ frames := 0, cells := 0, slots := 0, locals := 0 } : Room).slots) := by
  have W' := W; obtain ⟨S_n5, E_n5, S_n10, S_OK, E_OK, S_n1, E_n1, S_n2, E_n2, S_n4, E_n4, S_n9, E_n9, S_n6, E_n6, S_n0, E_n0, S_n7, E_n7, S_n8, E_n8, S_n3, E_n3, S_n11, E_n11, F_OK_code, F_n5_code, F_n1_code, F_n2_code, F_n4_code, F_n9_code, F_n6_code, F_n0_code, F_n7_code, F_n8_code, F_n3_code, F_n11_value, V_n10⟩ := W'
  refine MetFree.of_bodySF (plainFor_of_name pn_10) hisR ?_
  intro p e s m args below meth c s₁ Bd hml0 hP hK
  obtain ⟨rfl, hZ, hh⟩ := hP
  have hx := Bd.exec
  have hby := Bd.bytes
  have hml : c.maxLocals = 2 := hml0
  have hown : s.vm.findClass "java/util/Optional" = some m.cls := findClass_of_methodNamed Bd.named
  have hnm := (name_of_methodNamed Bd.named Bd.method).1
  have X0 : Stand p l e ({ frames := 0, cells := 0, slots := 0, locals := 0 } : Room) s m #[(.ref a1), .null] below meth c s₁ [] 0 0 := Stand.of_body Bd
  have e0 : s₁.heap = h0 := by rw [← hh, Bd.state]; rfl
  have N0 := Fr.nil n0
  have pre0 : ∀ t, Steps p.tables e below (s₁.setTop (mkF m 0 #[.val (.ref a1), .val .null] [])) t → Steps p.tables e below (s₁.setTop (entryFrame m #[(.ref a1), .null] 2)) t := fun t k => castTop (ef_10_8 m a1) k
  obtain ⟨T1, X1, e1, st1⟩ := getF X0 hx hZ hown (host := "") (Or.inl (hw _ (List.mem_of_getElem? (i := 33) rfl))) Via.refl e0 hf0 (g := (mkF m 1 #[.val (.ref a1), .val .null] [(.ref a1)])) rfl rfl (hb hby d10_1)
  obtain ⟨T2, X2, e2, st2⟩ := getF X1 hx hZ hown (host := "") (Or.inl (hw _ (List.mem_of_getElem? (i := 33) rfl))) Via.refl e1 hf0 (g := (mkF m 8 #[.val (.ref a1), .val .null] [(.ref a1)])) rfl rfl (hb hby d10_8)
  obtain ⟨fs, hr, hrun, hended, hW, hsame⟩ := X2.leave (v := some (.ref a3)) (fun h => by rw [Bd.returns] at h; cases h)
  refine ⟨_, _, pre0 _ ?_, hrun, hended, _, _, rfl, ?_, ⟨_, rfl⟩, hW, hsame.mono (by decide) (by decide)⟩
  · show Steps p.tables e below (s₁.setTop (mkF m 0 #[.val (.ref a1), .val .null] [])) _
    refine XS.aloadN X0.here hx rfl (hb hby d10_0) rfl rfl ?_
    show Steps p.tables e below (s₁.setTop (mkF m 1 #[.val (.ref a1), .val .null] [(.ref a1)])) _
    refine st1 _ ?_
    show Steps p.tables e below (T1.setTop (mkF m 4 #[.val (.ref a1), .val .null] [(.ref a3)])) _
    refine XS.ifnullNo X1.here hx rfl (hb hby d10_4) rfl ?_
    show Steps p.tables e below (T1.setTop (mkF m 7 #[.val (.ref a1), .val .null] [])) _
    refine XS.aloadN X1.here hx rfl (hb hby d10_7) rfl rfl ?_
    show Steps p.tables e below (T1.setTop (mkF m 8 #[.val (.ref a1), .val .null] [(.ref a1)])) _
    refine st2 _ ?_
    show Steps p.tables e below (T2.setTop (mkF m 11 #[.val (.ref a1), .val .null] [(.ref a3)])) _
    refine XS.goto X2.here hx rfl (pc0 := 11) (pc' := 15) rfl (hb hby d10_11) (by decide) (by decide) ?_
    show Steps p.tables e below (T2.setTop (mkF m 15 #[.val (.ref a1), .val .null] [(.ref a3)])) _
    jvm_step X2.here [X2.here.top, hx, (hb hby d10_15), X2.method', Bd.returns, Value.isRef, FieldType.isReference]
    first | (intro acts; rw [hr _ acts rfl rfl rfl]) | rw [hr _ _ rfl rfl rfl]
    exact Steps.refl _
  · show QP (some (.ref a3)) h0 n0 _ T2.heap _
    rw [e2]
    exact ⟨rfl, N0, rfl⟩
theorem d10_14 : decode jdk_32_method_15_code 14 = .ok (.aload_n 1, 1) := by decide +kernel
set_option maxRecDepth 65536 in
set_option maxHeartbeats 40000000 in
theorem rm_orn (l : Launch) (Z : State) (a0 : Array Value) (hw : ∀ d ∈ tables_1, d.before a0 Z = true) (ws : List Jvm.Cond) {w_n5 : Addr} {w_n10 : Addr} {w_OK : Addr} {w_n1 : Addr} {w_n2 : Addr} {w_n4 : Addr} {w_n9 : Addr} {w_n6 : Addr} {w_n0 : Addr} {w_n7 : Addr} {w_n8 : Addr} {w_n3 : Addr} {w_n11 : Addr} {k_n10 : ClassId} (W : Wd Z w_n5 w_n10 w_OK w_n1 w_n2 w_n4 w_n9 w_n6 w_n0 w_n7 w_n8 w_n3 w_n11 k_n10) (h0 : Heap) (n0 : Nat) (O0 : Old Z n0 h0) :
    MetFree l (⟨"java/util/Optional", "orElse", "(Ljava/lang/Object;)Ljava/lang/Object;"⟩ : MethodName) (head1 (Jvm.Cond.code (⟨"java/util/Optional", "orElse", "(Ljava/lang/Object;)Ljava/lang/Object;"⟩ : MethodName) jdk_32_method_15_code 2 (some (.object "java/lang/Object")) :: ws) ({ frames := 0, cells := 0, slots := 0, locals := 0 } : Room)) (fun a U => a = #[(.ref w_n11), .null] ∧ Z.Warmed39 U.vm ∧ U.heap = h0) (fun _ _ _ _ _ => True) (fun _ U o U' => ∃ v L, o = .returned v ∧ QP (some .null) h0 n0 v U'.heap L ∧ FrameEnd U o U' L ({ frames := 0, cells := 0, slots := 0, locals := 0 } : Room).cells ({ frames := 0, cells := 0, slots := 0, locals := 0 } : Room).slots) := by
  have W' := W; obtain ⟨S_n5, E_n5, S_n10, S_OK, E_OK, S_n1, E_n1, S_n2, E_n2, S_n4, E_n4, S_n9, E_n9, S_n6, E_n6, S_n0, E_n0, S_n7, E_n7, S_n8, E_n8, S_n3, E_n3, S_n11, E_n11, F_OK_code, F_n5_code, F_n1_code, F_n2_code, F_n4_code, F_n9_code, F_n6_code, F_n0_code, F_n7_code, F_n8_code, F_n3_code, F_n11_value, V_n10⟩ := W'
  refine MetFree.of_bodySF (plainFor_of_name pn_10) hisR ?_
  intro p e s m args below meth c s₁ Bd hml0 hP hK
  obtain ⟨rfl, hZ, hh⟩ := hP
  have hx := Bd.exec
  have hby := Bd.bytes
  have hml : c.maxLocals = 2 := hml0
  have hown : s.vm.findClass "java/util/Optional" = some m.cls := findClass_of_methodNamed Bd.named
  have hnm := (name_of_methodNamed Bd.named Bd.method).1
  have X0 : Stand p l e ({ frames := 0, cells := 0, slots := 0, locals := 0 } : Room) s m #[(.ref w_n11), .null] below meth c s₁ [] 0 0 := Stand.of_body Bd
  have e0 : s₁.heap = h0 := by rw [← hh, Bd.state]; rfl
  have N0 := Fr.nil n0
  have pre0 : ∀ t, Steps p.tables e below (s₁.setTop (mkF m 0 #[.val (.ref w_n11), .val .null] [])) t → Steps p.tables e below (s₁.setTop (entryFrame m #[(.ref w_n11), .null] 2)) t := fun t k => castTop (ef_10_8 m w_n11) k
  obtain ⟨T1, X1, e1, st1⟩ := getF X0 hx hZ hown (host := "") (Or.inl (hw _ (List.mem_of_getElem? (i := 33) rfl))) Via.refl e0 (F_n11_value.ext O0.2) (g := (mkF m 1 #[.val (.ref w_n11), .val .null] [(.ref w_n11)])) rfl rfl (hb hby d10_1)
  obtain ⟨fs, hr, hrun, hended, hW, hsame⟩ := X1.leave (v := some .null) (fun h => by rw [Bd.returns] at h; cases h)
  refine ⟨_, _, pre0 _ ?_, hrun, hended, _, _, rfl, ?_, ⟨_, rfl⟩, hW, hsame.mono (by decide) (by decide)⟩
  · show Steps p.tables e below (s₁.setTop (mkF m 0 #[.val (.ref w_n11), .val .null] [])) _
    refine XS.aloadN X0.here hx rfl (hb hby d10_0) rfl rfl ?_
    show Steps p.tables e below (s₁.setTop (mkF m 1 #[.val (.ref w_n11), .val .null] [(.ref w_n11)])) _
    refine st1 _ ?_
    show Steps p.tables e below (T1.setTop (mkF m 4 #[.val (.ref w_n11), .val .null] [.null])) _
    refine XS.ifnullYes X1.here hx rfl (pc0 := 4) (pc' := 14) rfl (hb hby d10_4) rfl (by decide) (by decide) ?_
    show Steps p.tables e below (T1.setTop (mkF m 14 #[.val (.ref w_n11), .val .null] [])) _
    refine XS.aloadN X1.here hx rfl (hb hby d10_14) rfl rfl ?_
    show Steps p.tables e below (T1.setTop (mkF m 15 #[.val (.ref w_n11), .val .null] [.null])) _
    jvm_step X1.here [X1.here.top, hx, (hb hby d10_15), X1.method', Bd.returns, Value.isRef, FieldType.isReference]
    first | (intro acts; rw [hr _ acts rfl rfl rfl]) | rw [hr _ _ rfl rfl rfl]
    exact Steps.refl _
  · show QP (some .null) h0 n0 _ T1.heap _
    rw [e1]
    exact ⟨rfl, N0, rfl⟩
theorem d9_0 : decode method_4_code 0 = .ok (.aload_n 0, 1) := by decide +kernel
theorem d9_1 : decode method_4_code 1 = .ok (.aconst_null, 1) := by decide +kernel
theorem d9_2 : decode method_4_code 2 = .ok (.invokevirtual 43, 3) := by decide +kernel
theorem d9_5 : decode method_4_code 5 = .ok (.aload_n 1, 1) := by decide +kernel
theorem d9_6 : decode method_4_code 6 = .ok (.if_acmp .ne 7, 3) := by decide +kernel
theorem d9_9 : decode method_4_code 9 = .ok (.iconst 1, 1) := by decide +kernel
theorem d9_10 : decode method_4_code 10 = .ok (.goto 4, 3) := by decide +kernel
theorem d9_14 : decode method_4_code 14 = .ok (.ireturn, 1) := by decide +kernel
theorem ef_9_9 (m : MethodId) (x0 : Addr) (x1 : Addr) : entryFrame m #[(.ref x0), (.ref x1)] 2 = mkF m 0 #[.val (.ref x0), .val (.ref x1)] [] := by first | (simp [entryFrame, mkF, argsToLocals, Value.category]; done) | rfl
theorem pn_9 : plainName "com/example/usher/usher/wire/ErrorCodeForCodePinLaw" = true := by first | (simp [plainName, overriddenIn]; done) | decide +kernel
set_option maxRecDepth 65536 in
set_option maxHeartbeats 40000000 in
theorem rm_sar (l : Launch) (Z : State) (a0 : Array Value) (hw : ∀ d ∈ tables_1, d.before a0 Z = true) (ws : List Jvm.Cond) {w_n5 : Addr} {w_n10 : Addr} {w_OK : Addr} {w_n1 : Addr} {w_n2 : Addr} {w_n4 : Addr} {w_n9 : Addr} {w_n6 : Addr} {w_n0 : Addr} {w_n7 : Addr} {w_n8 : Addr} {w_n3 : Addr} {w_n11 : Addr} {k_n10 : ClassId} (W : Wd Z w_n5 w_n10 w_OK w_n1 w_n2 w_n4 w_n9 w_n6 w_n0 w_n7 w_n8 w_n3 w_n11 k_n10) (a1 : Addr) (a2 : Addr) (h0 : Heap) (n0 : Nat) (O0 : Old Z n0 h0) (hf0 : Exa Z h0 a1 "java/util/Optional") (hf1 : Fld Z h0 a1 "java/util/Optional" "value" "Ljava/lang/Object;" (.ref a2)) :
    MetFree l (⟨"com/example/usher/usher/wire/ErrorCodeForCodePinLaw", "same", "(Ljava/util/Optional;Lcom/example/usher/usher/wire/ErrorCode;)Z"⟩ : MethodName) (head1 (Jvm.Cond.code (⟨"com/example/usher/usher/wire/ErrorCodeForCodePinLaw", "same", "(Ljava/util/Optional;Lcom/example/usher/usher/wire/ErrorCode;)Z"⟩ : MethodName) method_4_code 2 (some .boolean) :: ws) ({ frames := 1, cells := 0, slots := 0, locals := 13 } : Room)) (fun a U => a = #[(.ref a1), (.ref a2)] ∧ Z.Warmed39 U.vm ∧ U.heap = h0) (fun _ _ _ _ _ => True) (fun _ U o U' => ∃ v L, o = .returned v ∧ QP (some (.int (1 : Int32))) h0 n0 v U'.heap L ∧ FrameEnd U o U' L ({ frames := 1, cells := 0, slots := 0, locals := 13 } : Room).cells ({ frames := 1, cells := 0, slots := 0, locals := 13 } : Room).slots) := by
  have W' := W; obtain ⟨S_n5, E_n5, S_n10, S_OK, E_OK, S_n1, E_n1, S_n2, E_n2, S_n4, E_n4, S_n9, E_n9, S_n6, E_n6, S_n0, E_n0, S_n7, E_n7, S_n8, E_n8, S_n3, E_n3, S_n11, E_n11, F_OK_code, F_n5_code, F_n1_code, F_n2_code, F_n4_code, F_n9_code, F_n6_code, F_n0_code, F_n7_code, F_n8_code, F_n3_code, F_n11_value, V_n10⟩ := W'
  refine MetFree.of_bodySF (plainFor_of_name pn_9) hisR ?_
  intro p e s m args below meth c s₁ Bd hml0 hP hK
  obtain ⟨rfl, hZ, hh⟩ := hP
  have hx := Bd.exec
  have hby := Bd.bytes
  have hml : c.maxLocals = 2 := hml0
  have hown : s.vm.findClass "com/example/usher/usher/wire/ErrorCodeForCodePinLaw" = some m.cls := findClass_of_methodNamed Bd.named
  have hnm := (name_of_methodNamed Bd.named Bd.method).1
  have X0 : Stand p l e ({ frames := 1, cells := 0, slots := 0, locals := 13 } : Room) s m #[(.ref a1), (.ref a2)] below meth c s₁ [] 0 0 := Stand.of_body Bd
  have e0 : s₁.heap = h0 := by rw [← hh, Bd.state]; rfl
  have N0 := Fr.nil n0
  have pre0 : ∀ t, Steps p.tables e below (s₁.setTop (mkF m 0 #[.val (.ref a1), .val (.ref a2)] [])) t → Steps p.tables e below (s₁.setTop (entryFrame m #[(.ref a1), (.ref a2)] 2)) t := fun t k => castTop (ef_9_9 m a1 a2) k
  obtain ⟨cq1, kq1, q1a, q1b, q1c⟩ := isOf hZ e0 hf0
  obtain ⟨_, _, ⟨T1, L1, k1, n1⟩, -, X1, ⟨Lc1, hQ1, l1, y1, z1⟩, st1⟩ := X0.virtualBack hx (y := (⟨"java/util/Optional", "orElse", "(Ljava/lang/Object;)Ljava/lang/Object;"⟩ : MethodName)) (z := (⟨"java/util/Optional", "orElse", "(Ljava/lang/Object;)Ljava/lang/Object;"⟩ : MethodName)) hown (mvT hZ (hw _ (List.mem_of_getElem? (i := 49) rfl))) (mvT hZ (hw _ (List.mem_of_getElem? (i := 50) rfl))) (notFace_of_selects (args := #[]) (mvT hZ (hw _ (List.mem_of_getElem? (i := 52) rfl)))) (mvT hZ (hw _ (List.mem_of_getElem? (i := 52) rfl))) (mvT hZ (hw _ (List.mem_of_getElem? (i := 51) rfl))) (by decide) (backOf (W := 0) (rm_orr l Z a0 hw [] W a1 a2 h0 n0 O0 hf1) hZ (hw _ (List.mem_of_getElem? (i := 53) rfl)) (hw _ (List.mem_of_getElem? (i := 18) rfl)) (by decide) (by decide)) q1a q1c (g := (mkF m 2 #[.val (.ref a1), .val (.ref a2)] [.null, (.ref a1)])) rfl (by rw [hml]; rfl) (Steps.refl _) (argsL := [.null]) (rest := []) (lenOf pd_0 rfl) rfl (by show 2 * 0 + _ ≤ _; exact Nat.le_of_eq rfl) (hb hby d9_2) (fun _ _ => ⟨rfl, e0, (by decide : 0 + 0 ≤ _), (by decide : 0 + 0 ≤ _)⟩)
  dsimp only [Pt.U, Pt.locs, Pt.cells, Pt.slots] at X1 l1 y1 z1 st1 hQ1
  subst l1 y1 z1
  obtain ⟨rfl, N1q, e1⟩ := hQ1
  have N1 := Fr.app N0 N1q
  obtain ⟨fs, hr, hrun, hended, hW, hsame⟩ := X1.leave (v := some (.int (1 : Int32))) (fun h => by rw [Bd.returns] at h; cases h)
  refine ⟨_, _, pre0 _ ?_, hrun, hended, _, _, rfl, ?_, ⟨_, rfl⟩, hW, hsame.mono (by decide) (by decide)⟩
  · show Steps p.tables e below (s₁.setTop (mkF m 0 #[.val (.ref a1), .val (.ref a2)] [])) _
    refine XS.aloadN X0.here hx rfl (hb hby d9_0) rfl rfl ?_
    show Steps p.tables e below (s₁.setTop (mkF m 1 #[.val (.ref a1), .val (.ref a2)] [(.ref a1)])) _
    refine XS.aconstNull X0.here hx rfl (hb hby d9_1) ?_
    show Steps p.tables e below (s₁.setTop (mkF m 2 #[.val (.ref a1), .val (.ref a2)] [.null, (.ref a1)])) _
    refine st1.trans ?_
    show Steps p.tables e below (T1.setTop (mkF m 5 #[.val (.ref a1), .val (.ref a2)] [(.ref a2)])) _
    refine XS.aloadN X1.here hx rfl (hb hby d9_5) rfl rfl ?_
    show Steps p.tables e below (T1.setTop (mkF m 6 #[.val (.ref a1), .val (.ref a2)] [(.ref a2), (.ref a2)])) _
    refine Jvm.RoadKit.acmp (g := (mkF m 6 #[.val (.ref a1), .val (.ref a2)] [(.ref a2), (.ref a2)])) X1 hx rfl rfl rfl (pc0 := 6) (pc' := 9) (same := true) rfl (hb hby d9_6) rfl (decide_eq_true rfl) (by decide) (by decide) ?_
    show Steps p.tables e below (T1.setTop (mkF m 9 #[.val (.ref a1), .val (.ref a2)] [])) _
    refine XS.iconst X1.here hx rfl (hb hby d9_9) ?_
    show Steps p.tables e below (T1.setTop (mkF m 10 #[.val (.ref a1), .val (.ref a2)] [(.int (1 : Int32))])) _
    refine XS.goto X1.here hx rfl (pc0 := 10) (pc' := 14) rfl (hb hby d9_10) (by decide) (by decide) ?_
    show Steps p.tables e below (T1.setTop (mkF m 14 #[.val (.ref a1), .val (.ref a2)] [(.int (1 : Int32))])) _
    exact retN X1 hx (t := .boolean) Bd.returns (by simp) (hb hby d9_14) hr
  · show QP (some (.int (1 : Int32))) h0 n0 _ T1.heap _
    rw [e1]
    exact ⟨rfl, N1, rfl⟩
theorem ef_9_10 (m : MethodId) (x0 : Addr) : entryFrame m #[(.ref x0), .null] 2 = mkF m 0 #[.val (.ref x0), .val .null] [] := by first | (simp [entryFrame, mkF, argsToLocals, Value.category]; done) | rfl
set_option maxRecDepth 65536 in
set_option maxHeartbeats 40000000 in
theorem rm_san (l : Launch) (Z : State) (a0 : Array Value) (hw : ∀ d ∈ tables_1, d.before a0 Z = true) (ws : List Jvm.Cond) {w_n5 : Addr} {w_n10 : Addr} {w_OK : Addr} {w_n1 : Addr} {w_n2 : Addr} {w_n4 : Addr} {w_n9 : Addr} {w_n6 : Addr} {w_n0 : Addr} {w_n7 : Addr} {w_n8 : Addr} {w_n3 : Addr} {w_n11 : Addr} {k_n10 : ClassId} (W : Wd Z w_n5 w_n10 w_OK w_n1 w_n2 w_n4 w_n9 w_n6 w_n0 w_n7 w_n8 w_n3 w_n11 k_n10) (h0 : Heap) (n0 : Nat) (O0 : Old Z n0 h0) :
    MetFree l (⟨"com/example/usher/usher/wire/ErrorCodeForCodePinLaw", "same", "(Ljava/util/Optional;Lcom/example/usher/usher/wire/ErrorCode;)Z"⟩ : MethodName) (head1 (Jvm.Cond.code (⟨"com/example/usher/usher/wire/ErrorCodeForCodePinLaw", "same", "(Ljava/util/Optional;Lcom/example/usher/usher/wire/ErrorCode;)Z"⟩ : MethodName) method_4_code 2 (some .boolean) :: ws) ({ frames := 1, cells := 0, slots := 0, locals := 13 } : Room)) (fun a U => a = #[(.ref w_n11), .null] ∧ Z.Warmed39 U.vm ∧ U.heap = h0) (fun _ _ _ _ _ => True) (fun _ U o U' => ∃ v L, o = .returned v ∧ QP (some (.int (1 : Int32))) h0 n0 v U'.heap L ∧ FrameEnd U o U' L ({ frames := 1, cells := 0, slots := 0, locals := 13 } : Room).cells ({ frames := 1, cells := 0, slots := 0, locals := 13 } : Room).slots) := by
  have W' := W; obtain ⟨S_n5, E_n5, S_n10, S_OK, E_OK, S_n1, E_n1, S_n2, E_n2, S_n4, E_n4, S_n9, E_n9, S_n6, E_n6, S_n0, E_n0, S_n7, E_n7, S_n8, E_n8, S_n3, E_n3, S_n11, E_n11, F_OK_code, F_n5_code, F_n1_code, F_n2_code, F_n4_code, F_n9_code, F_n6_code, F_n0_code, F_n7_code, F_n8_code, F_n3_code, F_n11_value, V_n10⟩ := W'
  refine MetFree.of_bodySF (plainFor_of_name pn_9) hisR ?_
  intro p e s m args below meth c s₁ Bd hml0 hP hK
  obtain ⟨rfl, hZ, hh⟩ := hP
  have hx := Bd.exec
  have hby := Bd.bytes
  have hml : c.maxLocals = 2 := hml0
  have hown : s.vm.findClass "com/example/usher/usher/wire/ErrorCodeForCodePinLaw" = some m.cls := findClass_of_methodNamed Bd.named
  have hnm := (name_of_methodNamed Bd.named Bd.method).1
  have X0 : Stand p l e ({ frames := 1, cells := 0, slots := 0, locals := 13 } : Room) s m #[(.ref w_n11), .null] below meth c s₁ [] 0 0 := Stand.of_body Bd
  have e0 : s₁.heap = h0 := by rw [← hh, Bd.state]; rfl
  have N0 := Fr.nil n0
  have pre0 : ∀ t, Steps p.tables e below (s₁.setTop (mkF m 0 #[.val (.ref w_n11), .val .null] [])) t → Steps p.tables e below (s₁.setTop (entryFrame m #[(.ref w_n11), .null] 2)) t := fun t k => castTop (ef_9_10 m w_n11) k
  obtain ⟨cq1, kq1, q1a, q1b, q1c⟩ := isOf hZ e0 (E_n11.ext O0.2)
  obtain ⟨_, _, ⟨T1, L1, k1, n1⟩, -, X1, ⟨Lc1, hQ1, l1, y1, z1⟩, st1⟩ := X0.virtualBack hx (y := (⟨"java/util/Optional", "orElse", "(Ljava/lang/Object;)Ljava/lang/Object;"⟩ : MethodName)) (z := (⟨"java/util/Optional", "orElse", "(Ljava/lang/Object;)Ljava/lang/Object;"⟩ : MethodName)) hown (mvT hZ (hw _ (List.mem_of_getElem? (i := 49) rfl))) (mvT hZ (hw _ (List.mem_of_getElem? (i := 50) rfl))) (notFace_of_selects (args := #[]) (mvT hZ (hw _ (List.mem_of_getElem? (i := 52) rfl)))) (mvT hZ (hw _ (List.mem_of_getElem? (i := 52) rfl))) (mvT hZ (hw _ (List.mem_of_getElem? (i := 51) rfl))) (by decide) (backOf (W := 0) (rm_orn l Z a0 hw [] W  h0 n0 O0 ) hZ (hw _ (List.mem_of_getElem? (i := 53) rfl)) (hw _ (List.mem_of_getElem? (i := 18) rfl)) (by decide) (by decide)) q1a q1c (g := (mkF m 2 #[.val (.ref w_n11), .val .null] [.null, (.ref w_n11)])) rfl (by rw [hml]; rfl) (Steps.refl _) (argsL := [.null]) (rest := []) (lenOf pd_0 rfl) rfl (by show 2 * 0 + _ ≤ _; exact Nat.le_of_eq rfl) (hb hby d9_2) (fun _ _ => ⟨rfl, e0, (by decide : 0 + 0 ≤ _), (by decide : 0 + 0 ≤ _)⟩)
  dsimp only [Pt.U, Pt.locs, Pt.cells, Pt.slots] at X1 l1 y1 z1 st1 hQ1
  subst l1 y1 z1
  obtain ⟨rfl, N1q, e1⟩ := hQ1
  have N1 := Fr.app N0 N1q
  obtain ⟨fs, hr, hrun, hended, hW, hsame⟩ := X1.leave (v := some (.int (1 : Int32))) (fun h => by rw [Bd.returns] at h; cases h)
  refine ⟨_, _, pre0 _ ?_, hrun, hended, _, _, rfl, ?_, ⟨_, rfl⟩, hW, hsame.mono (by decide) (by decide)⟩
  · show Steps p.tables e below (s₁.setTop (mkF m 0 #[.val (.ref w_n11), .val .null] [])) _
    refine XS.aloadN X0.here hx rfl (hb hby d9_0) rfl rfl ?_
    show Steps p.tables e below (s₁.setTop (mkF m 1 #[.val (.ref w_n11), .val .null] [(.ref w_n11)])) _
    refine XS.aconstNull X0.here hx rfl (hb hby d9_1) ?_
    show Steps p.tables e below (s₁.setTop (mkF m 2 #[.val (.ref w_n11), .val .null] [.null, (.ref w_n11)])) _
    refine st1.trans ?_
    show Steps p.tables e below (T1.setTop (mkF m 5 #[.val (.ref w_n11), .val .null] [.null])) _
    refine XS.aloadN X1.here hx rfl (hb hby d9_5) rfl rfl ?_
    show Steps p.tables e below (T1.setTop (mkF m 6 #[.val (.ref w_n11), .val .null] [.null, .null])) _
    refine Jvm.RoadKit.acmp (g := (mkF m 6 #[.val (.ref w_n11), .val .null] [.null, .null])) X1 hx rfl rfl rfl (pc0 := 6) (pc' := 9) (same := true) rfl (hb hby d9_6) rfl (decide_eq_true rfl) (by decide) (by decide) ?_
    show Steps p.tables e below (T1.setTop (mkF m 9 #[.val (.ref w_n11), .val .null] [])) _
    refine XS.iconst X1.here hx rfl (hb hby d9_9) ?_
    show Steps p.tables e below (T1.setTop (mkF m 10 #[.val (.ref w_n11), .val .null] [(.int (1 : Int32))])) _
    refine XS.goto X1.here hx rfl (pc0 := 10) (pc' := 14) rfl (hb hby d9_10) (by decide) (by decide) ?_
    show Steps p.tables e below (T1.setTop (mkF m 14 #[.val (.ref w_n11), .val .null] [(.int (1 : Int32))])) _
    exact retN X1 hx (t := .boolean) Bd.returns (by simp) (hb hby d9_14) hr
  · show QP (some (.int (1 : Int32))) h0 n0 _ T1.heap _
    rw [e1]
    exact ⟨rfl, N1, rfl⟩
theorem pd_4 : parseMethodDescriptor "(I)Lcom/example/usher/usher/wire/ErrorCode;" = some ⟨[.int], some (.object "com/example/usher/usher/wire/ErrorCode")⟩ := by decide +kernel
theorem pd_5 : parseMethodDescriptor "(I)Ljava/util/Optional;" = some ⟨[.int], some (.object "java/util/Optional")⟩ := by decide +kernel
theorem pd_6 : parseMethodDescriptor "()I" = some ⟨[], some .int⟩ := by decide +kernel
theorem pd_7 : parseMethodDescriptor "(Ljava/util/Optional;Lcom/example/usher/usher/wire/ErrorCode;)Z" = some ⟨[(.object "java/util/Optional"), (.object "com/example/usher/usher/wire/ErrorCode")], some .boolean⟩ := by decide +kernel
theorem ef_0_11 (m : MethodId) (x0 : Int32) (x1 : Int32) : entryFrame m #[(.int x0), (.int x1)] maxLocals = mkF m 0 #[.val (.int x0), .val (.int x1), .unset, .unset, .unset, .unset, .unset] [] := by first | (simp [entryFrame, mkF, argsToLocals, Value.category, maxLocals]; done) | rfl
theorem pn_0 : plainName "com/example/usher/usher/wire/ErrorCodeForCodePinLaw" = true := by first | (simp [plainName, overriddenIn]; done) | decide +kernel
set_option maxRecDepth 65536 in
set_option maxHeartbeats 40000000 in
theorem rm0_00 (l : Launch) (Z : State) (a0 : Array Value) (hw : ∀ d ∈ tables_1, d.before a0 Z = true) (ws : List Jvm.Cond) {w_n5 : Addr} {w_n10 : Addr} {w_OK : Addr} {w_n1 : Addr} {w_n2 : Addr} {w_n4 : Addr} {w_n9 : Addr} {w_n6 : Addr} {w_n0 : Addr} {w_n7 : Addr} {w_n8 : Addr} {w_n3 : Addr} {w_n11 : Addr} {k_n10 : ClassId} (W : Wd Z w_n5 w_n10 w_OK w_n1 w_n2 w_n4 w_n9 w_n6 w_n0 w_n7 w_n8 w_n3 w_n11 k_n10) (p1 : Int32) (p2 : Int32) (pn : Int32) (pi : Int32) (ue : Addr) (ce : Int32) (h0 : Heap) (n0 : Nat) (O0 : Old Z n0 h0) (hnr : (-(((p2.toUInt32 >>> ((4 : Int32) &&& 31).toUInt32).toInt32) &&& (127 : Int32))) = pn) (hpi : ((p2 &&& (2147483647 : Int32)) % (11 : Int32)) = pi) (hpk : pkC w_OK w_n1 w_n2 w_n5 w_n4 w_n9 w_n6 w_n0 w_n7 w_n8 w_n3 pi = ue) (x3 : exC w_OK w_n1 w_n2 w_n5 w_n4 w_n9 w_n6 w_n0 w_n7 w_n8 w_n3 ce = .ref ue) (x1 : exC w_OK w_n1 w_n2 w_n5 w_n4 w_n9 w_n6 w_n0 w_n7 w_n8 w_n3 p1 = .null) (x2 : exC w_OK w_n1 w_n2 w_n5 w_n4 w_n9 w_n6 w_n0 w_n7 w_n8 w_n3 pn = .null) (ho0 : Exa Z Z.heap ue "com/example/usher/usher/wire/ErrorCode") (ho1 : Fld Z Z.heap ue "com/example/usher/usher/wire/ErrorCode" "code" "I" (.int ce)) :
    MetFree l x (head1 (Jvm.Cond.code x code maxLocals ret :: ws) room_1) (fun a U => a = #[(.int p1), (.int p2)] ∧ Z.Warmed39 U.vm ∧ U.heap = h0) (fun _ _ _ _ _ => True) (fun _ U o U' => ∃ v L, o = .returned v ∧ Q0 n0 v U'.heap L ∧ FrameEnd U o U' L room_1.cells room_1.slots) := by
  have W' := W; obtain ⟨S_n5, E_n5, S_n10, S_OK, E_OK, S_n1, E_n1, S_n2, E_n2, S_n4, E_n4, S_n9, E_n9, S_n6, E_n6, S_n0, E_n0, S_n7, E_n7, S_n8, E_n8, S_n3, E_n3, S_n11, E_n11, F_OK_code, F_n5_code, F_n1_code, F_n2_code, F_n4_code, F_n9_code, F_n6_code, F_n0_code, F_n7_code, F_n8_code, F_n3_code, F_n11_value, V_n10⟩ := W'
  refine MetFree.of_bodySF (plainFor_of_name pn_0) hisR ?_
  intro p e s m args below meth c s₁ Bd hml0 hP hK
  obtain ⟨rfl, hZ, hh⟩ := hP
  have hx := Bd.exec
  have hby := Bd.bytes
  have hml : c.maxLocals = 7 := hml0
  have hown : s.vm.findClass "com/example/usher/usher/wire/ErrorCodeForCodePinLaw" = some m.cls := findClass_of_methodNamed Bd.named
  have hnm := (name_of_methodNamed Bd.named Bd.method).1
  have X0 : Stand p l e room_1 s m #[(.int p1), (.int p2)] below meth c s₁ [] 0 0 := Stand.of_body Bd
  have e0 : s₁.heap = h0 := by rw [← hh, Bd.state]; rfl
  have N0 := Fr.nil n0
  have pre0 : ∀ t, Steps p.tables e below (s₁.setTop (mkF m 0 #[.val (.int p1), .val (.int p2), .unset, .unset, .unset, .unset, .unset] [])) t → Steps p.tables e below (s₁.setTop (entryFrame m #[(.int p1), (.int p2)] maxLocals)) t := fun t k => castTop (ef_0_11 m p1 p2) k
  obtain ⟨_, _, ⟨T1, L1, k1, n1⟩, -, X1, ⟨Lc1, hQ1, l1, y1, z1⟩, st1⟩ := Jvm.LawKit.callS X0 hx (y := (⟨"com/example/usher/usher/wire/ErrorCodeForCodePinLaw", "pick", "(I)Lcom/example/usher/usher/wire/ErrorCode;"⟩ : MethodName)) hown (mvT hZ (hw _ (List.mem_of_getElem? (i := 1) rfl))) (mvT hZ (hw _ (List.mem_of_getElem? (i := 2) rfl))) (mvT hZ (hw _ (List.mem_of_getElem? (i := 3) rfl))) (mvT hZ (hw _ (List.mem_of_getElem? (i := 4) rfl))) (by decide) (backOf (W := 0) (rm_pk l Z a0 hw [] W pi ue h0 n0 O0 hpk) hZ (hw _ (List.mem_of_getElem? (i := 4) rfl)) (hw _ (List.mem_of_getElem? (i := 3) rfl)) (by decide) (by decide)) (g := (mkF m 15 #[.val (.int p1), .val (.int p2), .val (.int pn), .unset, .unset, .unset, .unset] [(.int pi)])) rfl (by rw [hml]; rfl) (argsL := [(.int pi)]) (rest := []) (lenOf pd_4 rfl) rfl (by show 2 * 0 + _ ≤ _; exact Nat.le_of_eq rfl) (hb hby at_15) (fun _ _ => ⟨rfl, e0, (by decide : 0 + 0 ≤ _), (by decide : 0 + 0 ≤ _)⟩)
  dsimp only [Pt.U, Pt.locs, Pt.cells, Pt.slots] at X1 l1 y1 z1 st1 hQ1
  subst l1 y1 z1
  obtain ⟨rfl, N1q, e1⟩ := hQ1
  have N1 := Fr.app N0 N1q
  obtain ⟨_, _, ⟨T2, L2, k2, n2⟩, -, X2, ⟨Lc2, hQ2, l2, y2, z2⟩, st2⟩ := Jvm.LawKit.callS X1 hx (y := (⟨"com/example/usher/usher/wire/ErrorCode", "forCode", "(I)Ljava/util/Optional;"⟩ : MethodName)) hown (mvT hZ (hw _ (List.mem_of_getElem? (i := 8) rfl))) (mvT hZ (hw _ (List.mem_of_getElem? (i := 9) rfl))) (mvT hZ (hw _ (List.mem_of_getElem? (i := 6) rfl))) (mvT hZ (hw _ (List.mem_of_getElem? (i := 10) rfl))) (by decide) (backOf (W := 0) (rm_fcn l Z a0 hw [] W p1 h0 n0 O0 x1) hZ (hw _ (List.mem_of_getElem? (i := 10) rfl)) (hw _ (List.mem_of_getElem? (i := 6) rfl)) (by decide) (by decide)) (g := (mkF m 20 #[.val (.int p1), .val (.int p2), .val (.int pn), .val (.ref ue), .unset, .unset, .unset] [(.int p1)])) rfl (by rw [hml]; rfl) (argsL := [(.int p1)]) (rest := []) (lenOf pd_5 rfl) rfl (by show 2 * 0 + _ ≤ _; exact Nat.le_of_eq rfl) (hb hby at_20) (fun _ _ => ⟨rfl, e1, (by decide : 0 + 0 ≤ _), (by decide : 0 + 0 ≤ _)⟩)
  dsimp only [Pt.U, Pt.locs, Pt.cells, Pt.slots] at X2 l2 y2 z2 st2 hQ2
  subst l2 y2 z2
  obtain ⟨rfl, N2q, e2⟩ := hQ2
  have N2 := Fr.app N1 N2q
  obtain ⟨_, _, ⟨T3, L3, k3, n3⟩, -, X3, ⟨Lc3, hQ3, l3, y3, z3⟩, st3⟩ := Jvm.LawKit.callS X2 hx (y := (⟨"com/example/usher/usher/wire/ErrorCode", "forCode", "(I)Ljava/util/Optional;"⟩ : MethodName)) hown (mvT hZ (hw _ (List.mem_of_getElem? (i := 8) rfl))) (mvT hZ (hw _ (List.mem_of_getElem? (i := 9) rfl))) (mvT hZ (hw _ (List.mem_of_getElem? (i := 6) rfl))) (mvT hZ (hw _ (List.mem_of_getElem? (i := 10) rfl))) (by decide) (backOf (W := 0) (rm_fcn l Z a0 hw [] W pn h0 n0 O0 x2) hZ (hw _ (List.mem_of_getElem? (i := 10) rfl)) (hw _ (List.mem_of_getElem? (i := 6) rfl)) (by decide) (by decide)) (g := (mkF m 26 #[.val (.int p1), .val (.int p2), .val (.int pn), .val (.ref ue), .val (.ref w_n11), .unset, .unset] [(.int pn)])) rfl (by rw [hml]; rfl) (argsL := [(.int pn)]) (rest := []) (lenOf pd_5 rfl) rfl (by show 2 * 0 + _ ≤ _; exact Nat.le_of_eq rfl) (hb hby at_26) (fun _ _ => ⟨rfl, e2, (by decide : 0 + 0 ≤ _), (by decide : 0 + 0 ≤ _)⟩)
  dsimp only [Pt.U, Pt.locs, Pt.cells, Pt.slots] at X3 l3 y3 z3 st3 hQ3
  subst l3 y3 z3
  obtain ⟨rfl, N3q, e3⟩ := hQ3
  have N3 := Fr.app N2 N3q
  obtain ⟨cq4, kq4, q4a, q4b, q4c⟩ := isOf hZ e3 (ho0.ext O0.2)
  obtain ⟨_, _, ⟨T4, L4, k4, n4⟩, -, X4, ⟨Lc4, hQ4, l4, y4, z4⟩, st4⟩ := X3.virtualBack hx (y := (⟨"com/example/usher/usher/wire/ErrorCode", "code", "()I"⟩ : MethodName)) (z := (⟨"com/example/usher/usher/wire/ErrorCode", "code", "()I"⟩ : MethodName)) hown (mvT hZ (hw _ (List.mem_of_getElem? (i := 35) rfl))) (mvT hZ (hw _ (List.mem_of_getElem? (i := 36) rfl))) (notFace_of_selects (args := #[]) (mvT hZ (hw _ (List.mem_of_getElem? (i := 38) rfl)))) (mvT hZ (hw _ (List.mem_of_getElem? (i := 38) rfl))) (mvT hZ (hw _ (List.mem_of_getElem? (i := 37) rfl))) (by decide) (backOf (W := 0) (rm_cod l Z a0 hw [] W ue ce h0 n0 O0 (ho1.ext O0.2)) hZ (hw _ (List.mem_of_getElem? (i := 39) rfl)) (hw _ (List.mem_of_getElem? (i := 6) rfl)) (by decide) (by decide)) q4a q4c (g := (mkF m 32 #[.val (.int p1), .val (.int p2), .val (.int pn), .val (.ref ue), .val (.ref w_n11), .val (.ref w_n11), .unset] [(.ref ue)])) rfl (by rw [hml]; rfl) (Steps.refl _) (argsL := []) (rest := []) (lenOf pd_6 rfl) rfl (by show 2 * 0 + _ ≤ _; exact Nat.le_of_eq rfl) (hb hby at_32) (fun _ _ => ⟨rfl, e3, (by decide : 0 + 0 ≤ _), (by decide : 0 + 0 ≤ _)⟩)
  dsimp only [Pt.U, Pt.locs, Pt.cells, Pt.slots] at X4 l4 y4 z4 st4 hQ4
  subst l4 y4 z4
  obtain ⟨rfl, N4q, e4⟩ := hQ4
  have N4 := Fr.app N3 N4q
  obtain ⟨_, _, ⟨T5, L5, k5, n5⟩, -, X5, ⟨Lc5, hQ5, l5, y5, z5⟩, st5⟩ := Jvm.LawKit.callS X4 hx (y := (⟨"com/example/usher/usher/wire/ErrorCode", "forCode", "(I)Ljava/util/Optional;"⟩ : MethodName)) hown (mvT hZ (hw _ (List.mem_of_getElem? (i := 8) rfl))) (mvT hZ (hw _ (List.mem_of_getElem? (i := 9) rfl))) (mvT hZ (hw _ (List.mem_of_getElem? (i := 6) rfl))) (mvT hZ (hw _ (List.mem_of_getElem? (i := 10) rfl))) (by decide) (backOf (W := 0) (rm_fcr l Z a0 hw [] W ce ue h0 n0 O0 x3) hZ (hw _ (List.mem_of_getElem? (i := 10) rfl)) (hw _ (List.mem_of_getElem? (i := 6) rfl)) (by decide) (by decide)) (g := (mkF m 35 #[.val (.int p1), .val (.int p2), .val (.int pn), .val (.ref ue), .val (.ref w_n11), .val (.ref w_n11), .unset] [(.int ce)])) rfl (by rw [hml]; rfl) (argsL := [(.int ce)]) (rest := []) (lenOf pd_5 rfl) rfl (by show 2 * 0 + _ ≤ _; exact Nat.le_of_eq rfl) (hb hby at_35) (fun _ _ => ⟨rfl, e4, (by decide : 0 + 1 ≤ _), (by decide : 0 + 1 ≤ _)⟩)
  dsimp only [Pt.U, Pt.locs, Pt.cells, Pt.slots] at X5 l5 y5 z5 st5 hQ5
  subst l5 y5 z5
  obtain ⟨N5q, hP5⟩ := hQ5
  have N5 := Fr.app N4 N5q
  obtain ⟨b5_bb, rfl, Kp5, g_b5_bb, si_b5_bb, fp5_0, fp5_1⟩ := hP5
  have O5 := O0.keep Kp5 all0
  obtain ⟨_, _, ⟨T6, L6, k6, n6⟩, -, X6, ⟨Lc6, hQ6, l6, y6, z6⟩, st6⟩ := Jvm.LawKit.callS X5 hx (y := (⟨"com/example/usher/usher/wire/ErrorCodeForCodePinLaw", "expected", "(I)Lcom/example/usher/usher/wire/ErrorCode;"⟩ : MethodName)) hown (mvT hZ (hw _ (List.mem_of_getElem? (i := 42) rfl))) (mvT hZ (hw _ (List.mem_of_getElem? (i := 43) rfl))) (mvT hZ (hw _ (List.mem_of_getElem? (i := 3) rfl))) (mvT hZ (hw _ (List.mem_of_getElem? (i := 44) rfl))) (by decide) (backOf (W := 1) (rm_exn l Z a0 hw [] W p1 T5.heap n0 O5 x1) hZ (hw _ (List.mem_of_getElem? (i := 44) rfl)) (hw _ (List.mem_of_getElem? (i := 3) rfl)) (by decide) (by decide)) (g := (mkF m 43 #[.val (.int p1), .val (.int p2), .val (.int pn), .val (.ref ue), .val (.ref w_n11), .val (.ref w_n11), .val (.ref b5_bb)] [(.int p1), (.ref w_n11)])) rfl (by rw [hml]; rfl) (argsL := [(.int p1)]) (rest := [(.ref w_n11)]) (lenOf pd_4 rfl) rfl (by show 2 * 0 + _ ≤ _; exact Nat.le_of_eq rfl) (hb hby at_43) (fun _ _ => ⟨rfl, rfl, (by decide : 1 + 0 ≤ _), (by decide : 1 + 0 ≤ _)⟩)
  dsimp only [Pt.U, Pt.locs, Pt.cells, Pt.slots] at X6 l6 y6 z6 st6 hQ6
  subst l6 y6 z6
  obtain ⟨rfl, N6q, e6⟩ := hQ6
  have N6 := Fr.app N5 N6q
  obtain ⟨_, _, ⟨T7, L7, k7, n7⟩, -, X7, ⟨Lc7, hQ7, l7, y7, z7⟩, st7⟩ := Jvm.LawKit.callS X6 hx (y := (⟨"com/example/usher/usher/wire/ErrorCodeForCodePinLaw", "same", "(Ljava/util/Optional;Lcom/example/usher/usher/wire/ErrorCode;)Z"⟩ : MethodName)) hown (mvT hZ (hw _ (List.mem_of_getElem? (i := 46) rfl))) (mvT hZ (hw _ (List.mem_of_getElem? (i := 47) rfl))) (mvT hZ (hw _ (List.mem_of_getElem? (i := 3) rfl))) (mvT hZ (hw _ (List.mem_of_getElem? (i := 48) rfl))) (by decide) (backOf (W := 0) (rm_san l Z a0 hw [] W  T5.heap n0 O5 ) hZ (hw _ (List.mem_of_getElem? (i := 48) rfl)) (hw _ (List.mem_of_getElem? (i := 3) rfl)) (by decide) (by decide)) (g := (mkF m 46 #[.val (.int p1), .val (.int p2), .val (.int pn), .val (.ref ue), .val (.ref w_n11), .val (.ref w_n11), .val (.ref b5_bb)] [.null, (.ref w_n11)])) rfl (by rw [hml]; rfl) (argsL := [(.ref w_n11), .null]) (rest := []) (lenOf pd_7 rfl) rfl (by show 2 * 0 + _ ≤ _; exact Nat.le_of_eq rfl) (hb hby at_46) (fun _ _ => ⟨rfl, e6, (by decide : 1 + 0 ≤ _), (by decide : 1 + 0 ≤ _)⟩)
  dsimp only [Pt.U, Pt.locs, Pt.cells, Pt.slots] at X7 l7 y7 z7 st7 hQ7
  subst l7 y7 z7
  obtain ⟨rfl, N7q, e7⟩ := hQ7
  have N7 := Fr.app N6 N7q
  obtain ⟨_, _, ⟨T8, L8, k8, n8⟩, -, X8, ⟨Lc8, hQ8, l8, y8, z8⟩, st8⟩ := Jvm.LawKit.callS X7 hx (y := (⟨"com/example/usher/usher/wire/ErrorCodeForCodePinLaw", "expected", "(I)Lcom/example/usher/usher/wire/ErrorCode;"⟩ : MethodName)) hown (mvT hZ (hw _ (List.mem_of_getElem? (i := 42) rfl))) (mvT hZ (hw _ (List.mem_of_getElem? (i := 43) rfl))) (mvT hZ (hw _ (List.mem_of_getElem? (i := 3) rfl))) (mvT hZ (hw _ (List.mem_of_getElem? (i := 44) rfl))) (by decide) (backOf (W := 1) (rm_exn l Z a0 hw [] W pn T5.heap n0 O5 x2) hZ (hw _ (List.mem_of_getElem? (i := 44) rfl)) (hw _ (List.mem_of_getElem? (i := 3) rfl)) (by decide) (by decide)) (g := (mkF m 55 #[.val (.int p1), .val (.int p2), .val (.int pn), .val (.ref ue), .val (.ref w_n11), .val (.ref w_n11), .val (.ref b5_bb)] [(.int pn), (.ref w_n11)])) rfl (by rw [hml]; rfl) (argsL := [(.int pn)]) (rest := [(.ref w_n11)]) (lenOf pd_4 rfl) rfl (by show 2 * 0 + _ ≤ _; exact Nat.le_of_eq rfl) (hb hby at_55) (fun _ _ => ⟨rfl, e7, (by decide : 1 + 0 ≤ _), (by decide : 1 + 0 ≤ _)⟩)
  dsimp only [Pt.U, Pt.locs, Pt.cells, Pt.slots] at X8 l8 y8 z8 st8 hQ8
  subst l8 y8 z8
  obtain ⟨rfl, N8q, e8⟩ := hQ8
  have N8 := Fr.app N7 N8q
  obtain ⟨_, _, ⟨T9, L9, k9, n9⟩, -, X9, ⟨Lc9, hQ9, l9, y9, z9⟩, st9⟩ := Jvm.LawKit.callS X8 hx (y := (⟨"com/example/usher/usher/wire/ErrorCodeForCodePinLaw", "same", "(Ljava/util/Optional;Lcom/example/usher/usher/wire/ErrorCode;)Z"⟩ : MethodName)) hown (mvT hZ (hw _ (List.mem_of_getElem? (i := 46) rfl))) (mvT hZ (hw _ (List.mem_of_getElem? (i := 47) rfl))) (mvT hZ (hw _ (List.mem_of_getElem? (i := 3) rfl))) (mvT hZ (hw _ (List.mem_of_getElem? (i := 48) rfl))) (by decide) (backOf (W := 0) (rm_san l Z a0 hw [] W  T5.heap n0 O5 ) hZ (hw _ (List.mem_of_getElem? (i := 48) rfl)) (hw _ (List.mem_of_getElem? (i := 3) rfl)) (by decide) (by decide)) (g := (mkF m 58 #[.val (.int p1), .val (.int p2), .val (.int pn), .val (.ref ue), .val (.ref w_n11), .val (.ref w_n11), .val (.ref b5_bb)] [.null, (.ref w_n11)])) rfl (by rw [hml]; rfl) (argsL := [(.ref w_n11), .null]) (rest := []) (lenOf pd_7 rfl) rfl (by show 2 * 0 + _ ≤ _; exact Nat.le_of_eq rfl) (hb hby at_58) (fun _ _ => ⟨rfl, e8, (by decide : 1 + 0 ≤ _), (by decide : 1 + 0 ≤ _)⟩)
  dsimp only [Pt.U, Pt.locs, Pt.cells, Pt.slots] at X9 l9 y9 z9 st9 hQ9
  subst l9 y9 z9
  obtain ⟨rfl, N9q, e9⟩ := hQ9
  have N9 := Fr.app N8 N9q
  obtain ⟨_, _, ⟨T10, L10, k10, n10⟩, -, X10, ⟨Lc10, hQ10, l10, y10, z10⟩, st10⟩ := Jvm.LawKit.callS X9 hx (y := (⟨"com/example/usher/usher/wire/ErrorCodeForCodePinLaw", "same", "(Ljava/util/Optional;Lcom/example/usher/usher/wire/ErrorCode;)Z"⟩ : MethodName)) hown (mvT hZ (hw _ (List.mem_of_getElem? (i := 46) rfl))) (mvT hZ (hw _ (List.mem_of_getElem? (i := 47) rfl))) (mvT hZ (hw _ (List.mem_of_getElem? (i := 3) rfl))) (mvT hZ (hw _ (List.mem_of_getElem? (i := 48) rfl))) (by decide) (backOf (W := 0) (rm_sar l Z a0 hw [] W b5_bb ue T5.heap n0 O5 fp5_0 fp5_1) hZ (hw _ (List.mem_of_getElem? (i := 48) rfl)) (hw _ (List.mem_of_getElem? (i := 3) rfl)) (by decide) (by decide)) (g := (mkF m 67 #[.val (.int p1), .val (.int p2), .val (.int pn), .val (.ref ue), .val (.ref w_n11), .val (.ref w_n11), .val (.ref b5_bb)] [(.ref ue), (.ref b5_bb)])) rfl (by rw [hml]; rfl) (argsL := [(.ref b5_bb), (.ref ue)]) (rest := []) (lenOf pd_7 rfl) rfl (by show 2 * 0 + _ ≤ _; exact Nat.le_of_eq rfl) (hb hby at_67) (fun _ _ => ⟨rfl, e9, (by decide : 1 + 0 ≤ _), (by decide : 1 + 0 ≤ _)⟩)
  dsimp only [Pt.U, Pt.locs, Pt.cells, Pt.slots] at X10 l10 y10 z10 st10 hQ10
  subst l10 y10 z10
  obtain ⟨rfl, N10q, e10⟩ := hQ10
  have N10 := Fr.app N9 N10q
  obtain ⟨fs, hr, hrun, hended, hW, hsame⟩ := X10.leave (v := some (.int (1 : Int32))) (fun h => by rw [Bd.returns] at h; cases h)
  refine ⟨_, _, pre0 _ ?_, hrun, hended, _, _, rfl, ?_, ⟨_, rfl⟩, hW, hsame.mono (by decide) (by decide)⟩
  · show Steps p.tables e below (s₁.setTop (mkF m 0 #[.val (.int p1), .val (.int p2), .unset, .unset, .unset, .unset, .unset] [])) _
    refine XS.iloadN X0.here hx rfl (hb hby at_0) rfl ?_
    show Steps p.tables e below (s₁.setTop (mkF m 1 #[.val (.int p1), .val (.int p2), .unset, .unset, .unset, .unset, .unset] [(.int p2)])) _
    refine XS.iconst X0.here hx rfl (hb hby at_1) ?_
    show Steps p.tables e below (s₁.setTop (mkF m 2 #[.val (.int p1), .val (.int p2), .unset, .unset, .unset, .unset, .unset] [(.int (4 : Int32)), (.int p2)])) _
    refine XS.iushr X0.here hx rfl (hb hby at_2) rfl ?_
    show Steps p.tables e below (s₁.setTop (mkF m 3 #[.val (.int p1), .val (.int p2), .unset, .unset, .unset, .unset, .unset] [(.int ((p2.toUInt32 >>> ((4 : Int32) &&& 31).toUInt32).toInt32))])) _
    refine XS.bipush X0.here hx rfl (hb hby at_3) ?_
    show Steps p.tables e below (s₁.setTop (mkF m 5 #[.val (.int p1), .val (.int p2), .unset, .unset, .unset, .unset, .unset] [(.int (127 : Int32)), (.int ((p2.toUInt32 >>> ((4 : Int32) &&& 31).toUInt32).toInt32))])) _
    refine XS.iand X0.here hx rfl (hb hby at_5) rfl ?_
    show Steps p.tables e below (s₁.setTop (mkF m 6 #[.val (.int p1), .val (.int p2), .unset, .unset, .unset, .unset, .unset] [(.int (((p2.toUInt32 >>> ((4 : Int32) &&& 31).toUInt32).toInt32) &&& (127 : Int32)))])) _
    refine XS.ineg X0.here hx rfl (hb hby at_6) rfl ?_
    show Steps p.tables e below (s₁.setTop (mkF m 7 #[.val (.int p1), .val (.int p2), .unset, .unset, .unset, .unset, .unset] [(.int (-(((p2.toUInt32 >>> ((4 : Int32) &&& 31).toUInt32).toInt32) &&& (127 : Int32))))])) _
    rw [hnr]
    show Steps p.tables e below (s₁.setTop (mkF m 7 #[.val (.int p1), .val (.int p2), .unset, .unset, .unset, .unset, .unset] [(.int pn)])) _
    refine XS.istoreN X0.here hx rfl (hb hby at_7) rfl (l' := #[.val (.int p1), .val (.int p2), .val (.int pn), .unset, .unset, .unset, .unset]) rfl ?_
    show Steps p.tables e below (s₁.setTop (mkF m 8 #[.val (.int p1), .val (.int p2), .val (.int pn), .unset, .unset, .unset, .unset] [])) _
    refine XS.iloadN X0.here hx rfl (hb hby at_8) rfl ?_
    show Steps p.tables e below (s₁.setTop (mkF m 9 #[.val (.int p1), .val (.int p2), .val (.int pn), .unset, .unset, .unset, .unset] [(.int p2)])) _
    refine X0.ldcInt hx hown (mvT hZ (hw _ (List.mem_of_getElem? (i := 0) rfl))) (g := (mkF m 9 #[.val (.int p1), .val (.int p2), .val (.int pn), .unset, .unset, .unset, .unset] [(.int p2)])) rfl (hb hby at_9) _ ?_
    show Steps p.tables e below (s₁.setTop (mkF m 11 #[.val (.int p1), .val (.int p2), .val (.int pn), .unset, .unset, .unset, .unset] [(.int (2147483647 : Int32)), (.int p2)])) _
    refine XS.iand X0.here hx rfl (hb hby at_11) rfl ?_
    show Steps p.tables e below (s₁.setTop (mkF m 12 #[.val (.int p1), .val (.int p2), .val (.int pn), .unset, .unset, .unset, .unset] [(.int (p2 &&& (2147483647 : Int32)))])) _
    refine XS.bipush X0.here hx rfl (hb hby at_12) ?_
    show Steps p.tables e below (s₁.setTop (mkF m 14 #[.val (.int p1), .val (.int p2), .val (.int pn), .unset, .unset, .unset, .unset] [(.int (11 : Int32)), (.int (p2 &&& (2147483647 : Int32)))])) _
    refine iremM X0 hx rfl (hb hby at_14) rfl (by decide) ?_
    show Steps p.tables e below (s₁.setTop (mkF m 15 #[.val (.int p1), .val (.int p2), .val (.int pn), .unset, .unset, .unset, .unset] [(.int ((p2 &&& (2147483647 : Int32)) % (11 : Int32)))])) _
    rw [hpi]
    show Steps p.tables e below (s₁.setTop (mkF m 15 #[.val (.int p1), .val (.int p2), .val (.int pn), .unset, .unset, .unset, .unset] [(.int pi)])) _
    refine st1 _ ?_
    show Steps p.tables e below (T1.setTop (mkF m 18 #[.val (.int p1), .val (.int p2), .val (.int pn), .unset, .unset, .unset, .unset] [(.ref ue)])) _
    refine XS.astoreN X1.here hx rfl (hb hby at_18) rfl rfl (l' := #[.val (.int p1), .val (.int p2), .val (.int pn), .val (.ref ue), .unset, .unset, .unset]) rfl ?_
    show Steps p.tables e below (T1.setTop (mkF m 19 #[.val (.int p1), .val (.int p2), .val (.int pn), .val (.ref ue), .unset, .unset, .unset] [])) _
    refine XS.iloadN X1.here hx rfl (hb hby at_19) rfl ?_
    show Steps p.tables e below (T1.setTop (mkF m 20 #[.val (.int p1), .val (.int p2), .val (.int pn), .val (.ref ue), .unset, .unset, .unset] [(.int p1)])) _
    refine st2 _ ?_
    show Steps p.tables e below (T2.setTop (mkF m 23 #[.val (.int p1), .val (.int p2), .val (.int pn), .val (.ref ue), .unset, .unset, .unset] [(.ref w_n11)])) _
    refine XS.astore X2.here hx rfl (hb hby at_23) rfl rfl (l' := #[.val (.int p1), .val (.int p2), .val (.int pn), .val (.ref ue), .val (.ref w_n11), .unset, .unset]) rfl ?_
    show Steps p.tables e below (T2.setTop (mkF m 25 #[.val (.int p1), .val (.int p2), .val (.int pn), .val (.ref ue), .val (.ref w_n11), .unset, .unset] [])) _
    refine XS.iloadN X2.here hx rfl (hb hby at_25) rfl ?_
    show Steps p.tables e below (T2.setTop (mkF m 26 #[.val (.int p1), .val (.int p2), .val (.int pn), .val (.ref ue), .val (.ref w_n11), .unset, .unset] [(.int pn)])) _
    refine st3 _ ?_
    show Steps p.tables e below (T3.setTop (mkF m 29 #[.val (.int p1), .val (.int p2), .val (.int pn), .val (.ref ue), .val (.ref w_n11), .unset, .unset] [(.ref w_n11)])) _
    refine XS.astore X3.here hx rfl (hb hby at_29) rfl rfl (l' := #[.val (.int p1), .val (.int p2), .val (.int pn), .val (.ref ue), .val (.ref w_n11), .val (.ref w_n11), .unset]) rfl ?_
    show Steps p.tables e below (T3.setTop (mkF m 31 #[.val (.int p1), .val (.int p2), .val (.int pn), .val (.ref ue), .val (.ref w_n11), .val (.ref w_n11), .unset] [])) _
    refine XS.aloadN X3.here hx rfl (hb hby at_31) rfl rfl ?_
    show Steps p.tables e below (T3.setTop (mkF m 32 #[.val (.int p1), .val (.int p2), .val (.int pn), .val (.ref ue), .val (.ref w_n11), .val (.ref w_n11), .unset] [(.ref ue)])) _
    refine st4.trans ?_
    show Steps p.tables e below (T4.setTop (mkF m 35 #[.val (.int p1), .val (.int p2), .val (.int pn), .val (.ref ue), .val (.ref w_n11), .val (.ref w_n11), .unset] [(.int ce)])) _
    refine st5 _ ?_
    show Steps p.tables e below (T5.setTop (mkF m 38 #[.val (.int p1), .val (.int p2), .val (.int pn), .val (.ref ue), .val (.ref w_n11), .val (.ref w_n11), .unset] [(.ref b5_bb)])) _
    refine XS.astore X5.here hx rfl (hb hby at_38) rfl rfl (l' := #[.val (.int p1), .val (.int p2), .val (.int pn), .val (.ref ue), .val (.ref w_n11), .val (.ref w_n11), .val (.ref b5_bb)]) rfl ?_
    show Steps p.tables e below (T5.setTop (mkF m 40 #[.val (.int p1), .val (.int p2), .val (.int pn), .val (.ref ue), .val (.ref w_n11), .val (.ref w_n11), .val (.ref b5_bb)] [])) _
    refine XS.aload X5.here hx rfl (hb hby at_40) rfl rfl ?_
    show Steps p.tables e below (T5.setTop (mkF m 42 #[.val (.int p1), .val (.int p2), .val (.int pn), .val (.ref ue), .val (.ref w_n11), .val (.ref w_n11), .val (.ref b5_bb)] [(.ref w_n11)])) _
    refine XS.iloadN X5.here hx rfl (hb hby at_42) rfl ?_
    show Steps p.tables e below (T5.setTop (mkF m 43 #[.val (.int p1), .val (.int p2), .val (.int pn), .val (.ref ue), .val (.ref w_n11), .val (.ref w_n11), .val (.ref b5_bb)] [(.int p1), (.ref w_n11)])) _
    refine st6 _ ?_
    show Steps p.tables e below (T6.setTop (mkF m 46 #[.val (.int p1), .val (.int p2), .val (.int pn), .val (.ref ue), .val (.ref w_n11), .val (.ref w_n11), .val (.ref b5_bb)] [.null, (.ref w_n11)])) _
    refine st7 _ ?_
    show Steps p.tables e below (T7.setTop (mkF m 49 #[.val (.int p1), .val (.int p2), .val (.int pn), .val (.ref ue), .val (.ref w_n11), .val (.ref w_n11), .val (.ref b5_bb)] [(.int (1 : Int32))])) _
    refine XS.ifNo X7.here hx rfl (hb hby at_49) rfl ((if0 _ _).trans (feq ((by decide) : ¬ ((1 : Int32) = (0 : Int32)))).1) ?_
    show Steps p.tables e below (T7.setTop (mkF m 52 #[.val (.int p1), .val (.int p2), .val (.int pn), .val (.ref ue), .val (.ref w_n11), .val (.ref w_n11), .val (.ref b5_bb)] [])) _
    refine XS.aload X7.here hx rfl (hb hby at_52) rfl rfl ?_
    show Steps p.tables e below (T7.setTop (mkF m 54 #[.val (.int p1), .val (.int p2), .val (.int pn), .val (.ref ue), .val (.ref w_n11), .val (.ref w_n11), .val (.ref b5_bb)] [(.ref w_n11)])) _
    refine XS.iloadN X7.here hx rfl (hb hby at_54) rfl ?_
    show Steps p.tables e below (T7.setTop (mkF m 55 #[.val (.int p1), .val (.int p2), .val (.int pn), .val (.ref ue), .val (.ref w_n11), .val (.ref w_n11), .val (.ref b5_bb)] [(.int pn), (.ref w_n11)])) _
    refine st8 _ ?_
    show Steps p.tables e below (T8.setTop (mkF m 58 #[.val (.int p1), .val (.int p2), .val (.int pn), .val (.ref ue), .val (.ref w_n11), .val (.ref w_n11), .val (.ref b5_bb)] [.null, (.ref w_n11)])) _
    refine st9 _ ?_
    show Steps p.tables e below (T9.setTop (mkF m 61 #[.val (.int p1), .val (.int p2), .val (.int pn), .val (.ref ue), .val (.ref w_n11), .val (.ref w_n11), .val (.ref b5_bb)] [(.int (1 : Int32))])) _
    refine XS.ifNo X9.here hx rfl (hb hby at_61) rfl ((if0 _ _).trans (feq ((by decide) : ¬ ((1 : Int32) = (0 : Int32)))).1) ?_
    show Steps p.tables e below (T9.setTop (mkF m 64 #[.val (.int p1), .val (.int p2), .val (.int pn), .val (.ref ue), .val (.ref w_n11), .val (.ref w_n11), .val (.ref b5_bb)] [])) _
    refine XS.aload X9.here hx rfl (hb hby at_64) rfl rfl ?_
    show Steps p.tables e below (T9.setTop (mkF m 66 #[.val (.int p1), .val (.int p2), .val (.int pn), .val (.ref ue), .val (.ref w_n11), .val (.ref w_n11), .val (.ref b5_bb)] [(.ref b5_bb)])) _
    refine XS.aloadN X9.here hx rfl (hb hby at_66) rfl rfl ?_
    show Steps p.tables e below (T9.setTop (mkF m 67 #[.val (.int p1), .val (.int p2), .val (.int pn), .val (.ref ue), .val (.ref w_n11), .val (.ref w_n11), .val (.ref b5_bb)] [(.ref ue), (.ref b5_bb)])) _
    refine st10 _ ?_
    show Steps p.tables e below (T10.setTop (mkF m 70 #[.val (.int p1), .val (.int p2), .val (.int pn), .val (.ref ue), .val (.ref w_n11), .val (.ref w_n11), .val (.ref b5_bb)] [(.int (1 : Int32))])) _
    refine XS.ifNo X10.here hx rfl (hb hby at_70) rfl ((if0 _ _).trans (feq ((by decide) : ¬ ((1 : Int32) = (0 : Int32)))).1) ?_
    show Steps p.tables e below (T10.setTop (mkF m 73 #[.val (.int p1), .val (.int p2), .val (.int pn), .val (.ref ue), .val (.ref w_n11), .val (.ref w_n11), .val (.ref b5_bb)] [])) _
    refine XS.iconst X10.here hx rfl (hb hby at_73) ?_
    show Steps p.tables e below (T10.setTop (mkF m 74 #[.val (.int p1), .val (.int p2), .val (.int pn), .val (.ref ue), .val (.ref w_n11), .val (.ref w_n11), .val (.ref b5_bb)] [(.int (1 : Int32))])) _
    refine XS.goto X10.here hx rfl (pc0 := 74) (pc' := 78) rfl (hb hby at_74) (by decide) (by decide) ?_
    show Steps p.tables e below (T10.setTop (mkF m 78 #[.val (.int p1), .val (.int p2), .val (.int pn), .val (.ref ue), .val (.ref w_n11), .val (.ref w_n11), .val (.ref b5_bb)] [(.int (1 : Int32))])) _
    exact retN X10 hx (t := .boolean) Bd.returns (by simp) (hb hby at_78) hr
  · show Q0 n0 _ T10.heap _
    rw [e10]
    exact ⟨rfl, N10⟩
set_option maxRecDepth 65536 in
set_option maxHeartbeats 40000000 in
theorem rm0_01 (l : Launch) (Z : State) (a0 : Array Value) (hw : ∀ d ∈ tables_1, d.before a0 Z = true) (ws : List Jvm.Cond) {w_n5 : Addr} {w_n10 : Addr} {w_OK : Addr} {w_n1 : Addr} {w_n2 : Addr} {w_n4 : Addr} {w_n9 : Addr} {w_n6 : Addr} {w_n0 : Addr} {w_n7 : Addr} {w_n8 : Addr} {w_n3 : Addr} {w_n11 : Addr} {k_n10 : ClassId} (W : Wd Z w_n5 w_n10 w_OK w_n1 w_n2 w_n4 w_n9 w_n6 w_n0 w_n7 w_n8 w_n3 w_n11 k_n10) (p1 : Int32) (p2 : Int32) (pn : Int32) (pi : Int32) (ue : Addr) (ce : Int32) (u2 : Addr) (h0 : Heap) (n0 : Nat) (O0 : Old Z n0 h0) (hnr : (-(((p2.toUInt32 >>> ((4 : Int32) &&& 31).toUInt32).toInt32) &&& (127 : Int32))) = pn) (hpi : ((p2 &&& (2147483647 : Int32)) % (11 : Int32)) = pi) (hpk : pkC w_OK w_n1 w_n2 w_n5 w_n4 w_n9 w_n6 w_n0 w_n7 w_n8 w_n3 pi = ue) (x3 : exC w_OK w_n1 w_n2 w_n5 w_n4 w_n9 w_n6 w_n0 w_n7 w_n8 w_n3 ce = .ref ue) (x1 : exC w_OK w_n1 w_n2 w_n5 w_n4 w_n9 w_n6 w_n0 w_n7 w_n8 w_n3 p1 = .null) (x2 : exC w_OK w_n1 w_n2 w_n5 w_n4 w_n9 w_n6 w_n0 w_n7 w_n8 w_n3 pn = .ref u2) (ho0 : Exa Z Z.heap ue "com/example/usher/usher/wire/ErrorCode") (ho1 : Fld Z Z.heap ue "com/example/usher/usher/wire/ErrorCode" "code" "I" (.int ce)) :
    MetFree l x (head1 (Jvm.Cond.code x code maxLocals ret :: ws) room_1) (fun a U => a = #[(.int p1), (.int p2)] ∧ Z.Warmed39 U.vm ∧ U.heap = h0) (fun _ _ _ _ _ => True) (fun _ U o U' => ∃ v L, o = .returned v ∧ Q0 n0 v U'.heap L ∧ FrameEnd U o U' L room_1.cells room_1.slots) := by
  have W' := W; obtain ⟨S_n5, E_n5, S_n10, S_OK, E_OK, S_n1, E_n1, S_n2, E_n2, S_n4, E_n4, S_n9, E_n9, S_n6, E_n6, S_n0, E_n0, S_n7, E_n7, S_n8, E_n8, S_n3, E_n3, S_n11, E_n11, F_OK_code, F_n5_code, F_n1_code, F_n2_code, F_n4_code, F_n9_code, F_n6_code, F_n0_code, F_n7_code, F_n8_code, F_n3_code, F_n11_value, V_n10⟩ := W'
  refine MetFree.of_bodySF (plainFor_of_name pn_0) hisR ?_
  intro p e s m args below meth c s₁ Bd hml0 hP hK
  obtain ⟨rfl, hZ, hh⟩ := hP
  have hx := Bd.exec
  have hby := Bd.bytes
  have hml : c.maxLocals = 7 := hml0
  have hown : s.vm.findClass "com/example/usher/usher/wire/ErrorCodeForCodePinLaw" = some m.cls := findClass_of_methodNamed Bd.named
  have hnm := (name_of_methodNamed Bd.named Bd.method).1
  have X0 : Stand p l e room_1 s m #[(.int p1), (.int p2)] below meth c s₁ [] 0 0 := Stand.of_body Bd
  have e0 : s₁.heap = h0 := by rw [← hh, Bd.state]; rfl
  have N0 := Fr.nil n0
  have pre0 : ∀ t, Steps p.tables e below (s₁.setTop (mkF m 0 #[.val (.int p1), .val (.int p2), .unset, .unset, .unset, .unset, .unset] [])) t → Steps p.tables e below (s₁.setTop (entryFrame m #[(.int p1), (.int p2)] maxLocals)) t := fun t k => castTop (ef_0_11 m p1 p2) k
  obtain ⟨_, _, ⟨T1, L1, k1, n1⟩, -, X1, ⟨Lc1, hQ1, l1, y1, z1⟩, st1⟩ := Jvm.LawKit.callS X0 hx (y := (⟨"com/example/usher/usher/wire/ErrorCodeForCodePinLaw", "pick", "(I)Lcom/example/usher/usher/wire/ErrorCode;"⟩ : MethodName)) hown (mvT hZ (hw _ (List.mem_of_getElem? (i := 1) rfl))) (mvT hZ (hw _ (List.mem_of_getElem? (i := 2) rfl))) (mvT hZ (hw _ (List.mem_of_getElem? (i := 3) rfl))) (mvT hZ (hw _ (List.mem_of_getElem? (i := 4) rfl))) (by decide) (backOf (W := 0) (rm_pk l Z a0 hw [] W pi ue h0 n0 O0 hpk) hZ (hw _ (List.mem_of_getElem? (i := 4) rfl)) (hw _ (List.mem_of_getElem? (i := 3) rfl)) (by decide) (by decide)) (g := (mkF m 15 #[.val (.int p1), .val (.int p2), .val (.int pn), .unset, .unset, .unset, .unset] [(.int pi)])) rfl (by rw [hml]; rfl) (argsL := [(.int pi)]) (rest := []) (lenOf pd_4 rfl) rfl (by show 2 * 0 + _ ≤ _; exact Nat.le_of_eq rfl) (hb hby at_15) (fun _ _ => ⟨rfl, e0, (by decide : 0 + 0 ≤ _), (by decide : 0 + 0 ≤ _)⟩)
  dsimp only [Pt.U, Pt.locs, Pt.cells, Pt.slots] at X1 l1 y1 z1 st1 hQ1
  subst l1 y1 z1
  obtain ⟨rfl, N1q, e1⟩ := hQ1
  have N1 := Fr.app N0 N1q
  obtain ⟨_, _, ⟨T2, L2, k2, n2⟩, -, X2, ⟨Lc2, hQ2, l2, y2, z2⟩, st2⟩ := Jvm.LawKit.callS X1 hx (y := (⟨"com/example/usher/usher/wire/ErrorCode", "forCode", "(I)Ljava/util/Optional;"⟩ : MethodName)) hown (mvT hZ (hw _ (List.mem_of_getElem? (i := 8) rfl))) (mvT hZ (hw _ (List.mem_of_getElem? (i := 9) rfl))) (mvT hZ (hw _ (List.mem_of_getElem? (i := 6) rfl))) (mvT hZ (hw _ (List.mem_of_getElem? (i := 10) rfl))) (by decide) (backOf (W := 0) (rm_fcn l Z a0 hw [] W p1 h0 n0 O0 x1) hZ (hw _ (List.mem_of_getElem? (i := 10) rfl)) (hw _ (List.mem_of_getElem? (i := 6) rfl)) (by decide) (by decide)) (g := (mkF m 20 #[.val (.int p1), .val (.int p2), .val (.int pn), .val (.ref ue), .unset, .unset, .unset] [(.int p1)])) rfl (by rw [hml]; rfl) (argsL := [(.int p1)]) (rest := []) (lenOf pd_5 rfl) rfl (by show 2 * 0 + _ ≤ _; exact Nat.le_of_eq rfl) (hb hby at_20) (fun _ _ => ⟨rfl, e1, (by decide : 0 + 0 ≤ _), (by decide : 0 + 0 ≤ _)⟩)
  dsimp only [Pt.U, Pt.locs, Pt.cells, Pt.slots] at X2 l2 y2 z2 st2 hQ2
  subst l2 y2 z2
  obtain ⟨rfl, N2q, e2⟩ := hQ2
  have N2 := Fr.app N1 N2q
  obtain ⟨_, _, ⟨T3, L3, k3, n3⟩, -, X3, ⟨Lc3, hQ3, l3, y3, z3⟩, st3⟩ := Jvm.LawKit.callS X2 hx (y := (⟨"com/example/usher/usher/wire/ErrorCode", "forCode", "(I)Ljava/util/Optional;"⟩ : MethodName)) hown (mvT hZ (hw _ (List.mem_of_getElem? (i := 8) rfl))) (mvT hZ (hw _ (List.mem_of_getElem? (i := 9) rfl))) (mvT hZ (hw _ (List.mem_of_getElem? (i := 6) rfl))) (mvT hZ (hw _ (List.mem_of_getElem? (i := 10) rfl))) (by decide) (backOf (W := 0) (rm_fcr l Z a0 hw [] W pn u2 h0 n0 O0 x2) hZ (hw _ (List.mem_of_getElem? (i := 10) rfl)) (hw _ (List.mem_of_getElem? (i := 6) rfl)) (by decide) (by decide)) (g := (mkF m 26 #[.val (.int p1), .val (.int p2), .val (.int pn), .val (.ref ue), .val (.ref w_n11), .unset, .unset] [(.int pn)])) rfl (by rw [hml]; rfl) (argsL := [(.int pn)]) (rest := []) (lenOf pd_5 rfl) rfl (by show 2 * 0 + _ ≤ _; exact Nat.le_of_eq rfl) (hb hby at_26) (fun _ _ => ⟨rfl, e2, (by decide : 0 + 1 ≤ _), (by decide : 0 + 1 ≤ _)⟩)
  dsimp only [Pt.U, Pt.locs, Pt.cells, Pt.slots] at X3 l3 y3 z3 st3 hQ3
  subst l3 y3 z3
  obtain ⟨N3q, hP3⟩ := hQ3
  have N3 := Fr.app N2 N3q
  obtain ⟨b3_bb, rfl, Kp3, g_b3_bb, si_b3_bb, fp3_0, fp3_1⟩ := hP3
  have O3 := O0.keep Kp3 all0
  obtain ⟨cq4, kq4, q4a, q4b, q4c⟩ := isOf hZ rfl (ho0.ext O3.2)
  obtain ⟨_, _, ⟨T4, L4, k4, n4⟩, -, X4, ⟨Lc4, hQ4, l4, y4, z4⟩, st4⟩ := X3.virtualBack hx (y := (⟨"com/example/usher/usher/wire/ErrorCode", "code", "()I"⟩ : MethodName)) (z := (⟨"com/example/usher/usher/wire/ErrorCode", "code", "()I"⟩ : MethodName)) hown (mvT hZ (hw _ (List.mem_of_getElem? (i := 35) rfl))) (mvT hZ (hw _ (List.mem_of_getElem? (i := 36) rfl))) (notFace_of_selects (args := #[]) (mvT hZ (hw _ (List.mem_of_getElem? (i := 38) rfl)))) (mvT hZ (hw _ (List.mem_of_getElem? (i := 38) rfl))) (mvT hZ (hw _ (List.mem_of_getElem? (i := 37) rfl))) (by decide) (backOf (W := 0) (rm_cod l Z a0 hw [] W ue ce T3.heap n0 O3 (ho1.ext O3.2)) hZ (hw _ (List.mem_of_getElem? (i := 39) rfl)) (hw _ (List.mem_of_getElem? (i := 6) rfl)) (by decide) (by decide)) q4a q4c (g := (mkF m 32 #[.val (.int p1), .val (.int p2), .val (.int pn), .val (.ref ue), .val (.ref w_n11), .val (.ref b3_bb), .unset] [(.ref ue)])) rfl (by rw [hml]; rfl) (Steps.refl _) (argsL := []) (rest := []) (lenOf pd_6 rfl) rfl (by show 2 * 0 + _ ≤ _; exact Nat.le_of_eq rfl) (hb hby at_32) (fun _ _ => ⟨rfl, rfl, (by decide : 1 + 0 ≤ _), (by decide : 1 + 0 ≤ _)⟩)
  dsimp only [Pt.U, Pt.locs, Pt.cells, Pt.slots] at X4 l4 y4 z4 st4 hQ4
  subst l4 y4 z4
  obtain ⟨rfl, N4q, e4⟩ := hQ4
  have N4 := Fr.app N3 N4q
  obtain ⟨_, _, ⟨T5, L5, k5, n5⟩, -, X5, ⟨Lc5, hQ5, l5, y5, z5⟩, st5⟩ := Jvm.LawKit.callS X4 hx (y := (⟨"com/example/usher/usher/wire/ErrorCode", "forCode", "(I)Ljava/util/Optional;"⟩ : MethodName)) hown (mvT hZ (hw _ (List.mem_of_getElem? (i := 8) rfl))) (mvT hZ (hw _ (List.mem_of_getElem? (i := 9) rfl))) (mvT hZ (hw _ (List.mem_of_getElem? (i := 6) rfl))) (mvT hZ (hw _ (List.mem_of_getElem? (i := 10) rfl))) (by decide) (backOf (W := 0) (rm_fcr l Z a0 hw [] W ce ue T3.heap n0 O3 x3) hZ (hw _ (List.mem_of_getElem? (i := 10) rfl)) (hw _ (List.mem_of_getElem? (i := 6) rfl)) (by decide) (by decide)) (g := (mkF m 35 #[.val (.int p1), .val (.int p2), .val (.int pn), .val (.ref ue), .val (.ref w_n11), .val (.ref b3_bb), .unset] [(.int ce)])) rfl (by rw [hml]; rfl) (argsL := [(.int ce)]) (rest := []) (lenOf pd_5 rfl) rfl (by show 2 * 0 + _ ≤ _; exact Nat.le_of_eq rfl) (hb hby at_35) (fun _ _ => ⟨rfl, e4, (by decide : 1 + 1 ≤ _), (by decide : 1 + 1 ≤ _)⟩)
  dsimp only [Pt.U, Pt.locs, Pt.cells, Pt.slots] at X5 l5 y5 z5 st5 hQ5
  subst l5 y5 z5
  obtain ⟨N5q, hP5⟩ := hQ5
  have N5 := Fr.app N4 N5q
  obtain ⟨b5_bb, rfl, Kp5, g_b5_bb, si_b5_bb, fp5_0, fp5_1⟩ := hP5
  have f5_0 : Exa Z T5.heap b3_bb "java/util/Optional" := (fp3_0).keep Kp5
  have f5_1 : Fld Z T5.heap b3_bb "java/util/Optional" "value" "Ljava/lang/Object;" (.ref u2) := (fp3_1).keep Kp5 nin0
  have O5 := O3.keep Kp5 all0
  obtain ⟨_, _, ⟨T6, L6, k6, n6⟩, -, X6, ⟨Lc6, hQ6, l6, y6, z6⟩, st6⟩ := Jvm.LawKit.callS X5 hx (y := (⟨"com/example/usher/usher/wire/ErrorCodeForCodePinLaw", "expected", "(I)Lcom/example/usher/usher/wire/ErrorCode;"⟩ : MethodName)) hown (mvT hZ (hw _ (List.mem_of_getElem? (i := 42) rfl))) (mvT hZ (hw _ (List.mem_of_getElem? (i := 43) rfl))) (mvT hZ (hw _ (List.mem_of_getElem? (i := 3) rfl))) (mvT hZ (hw _ (List.mem_of_getElem? (i := 44) rfl))) (by decide) (backOf (W := 1) (rm_exn l Z a0 hw [] W p1 T5.heap n0 O5 x1) hZ (hw _ (List.mem_of_getElem? (i := 44) rfl)) (hw _ (List.mem_of_getElem? (i := 3) rfl)) (by decide) (by decide)) (g := (mkF m 43 #[.val (.int p1), .val (.int p2), .val (.int pn), .val (.ref ue), .val (.ref w_n11), .val (.ref b3_bb), .val (.ref b5_bb)] [(.int p1), (.ref w_n11)])) rfl (by rw [hml]; rfl) (argsL := [(.int p1)]) (rest := [(.ref w_n11)]) (lenOf pd_4 rfl) rfl (by show 2 * 0 + _ ≤ _; exact Nat.le_of_eq rfl) (hb hby at_43) (fun _ _ => ⟨rfl, rfl, (by decide : 2 + 0 ≤ _), (by decide : 2 + 0 ≤ _)⟩)
  dsimp only [Pt.U, Pt.locs, Pt.cells, Pt.slots] at X6 l6 y6 z6 st6 hQ6
  subst l6 y6 z6
  obtain ⟨rfl, N6q, e6⟩ := hQ6
  have N6 := Fr.app N5 N6q
  obtain ⟨_, _, ⟨T7, L7, k7, n7⟩, -, X7, ⟨Lc7, hQ7, l7, y7, z7⟩, st7⟩ := Jvm.LawKit.callS X6 hx (y := (⟨"com/example/usher/usher/wire/ErrorCodeForCodePinLaw", "same", "(Ljava/util/Optional;Lcom/example/usher/usher/wire/ErrorCode;)Z"⟩ : MethodName)) hown (mvT hZ (hw _ (List.mem_of_getElem? (i := 46) rfl))) (mvT hZ (hw _ (List.mem_of_getElem? (i := 47) rfl))) (mvT hZ (hw _ (List.mem_of_getElem? (i := 3) rfl))) (mvT hZ (hw _ (List.mem_of_getElem? (i := 48) rfl))) (by decide) (backOf (W := 0) (rm_san l Z a0 hw [] W  T5.heap n0 O5 ) hZ (hw _ (List.mem_of_getElem? (i := 48) rfl)) (hw _ (List.mem_of_getElem? (i := 3) rfl)) (by decide) (by decide)) (g := (mkF m 46 #[.val (.int p1), .val (.int p2), .val (.int pn), .val (.ref ue), .val (.ref w_n11), .val (.ref b3_bb), .val (.ref b5_bb)] [.null, (.ref w_n11)])) rfl (by rw [hml]; rfl) (argsL := [(.ref w_n11), .null]) (rest := []) (lenOf pd_7 rfl) rfl (by show 2 * 0 + _ ≤ _; exact Nat.le_of_eq rfl) (hb hby at_46) (fun _ _ => ⟨rfl, e6, (by decide : 2 + 0 ≤ _), (by decide : 2 + 0 ≤ _)⟩)
  dsimp only [Pt.U, Pt.locs, Pt.cells, Pt.slots] at X7 l7 y7 z7 st7 hQ7
  subst l7 y7 z7
  obtain ⟨rfl, N7q, e7⟩ := hQ7
  have N7 := Fr.app N6 N7q
  obtain ⟨_, _, ⟨T8, L8, k8, n8⟩, -, X8, ⟨Lc8, hQ8, l8, y8, z8⟩, st8⟩ := Jvm.LawKit.callS X7 hx (y := (⟨"com/example/usher/usher/wire/ErrorCodeForCodePinLaw", "expected", "(I)Lcom/example/usher/usher/wire/ErrorCode;"⟩ : MethodName)) hown (mvT hZ (hw _ (List.mem_of_getElem? (i := 42) rfl))) (mvT hZ (hw _ (List.mem_of_getElem? (i := 43) rfl))) (mvT hZ (hw _ (List.mem_of_getElem? (i := 3) rfl))) (mvT hZ (hw _ (List.mem_of_getElem? (i := 44) rfl))) (by decide) (backOf (W := 1) (rm_exr l Z a0 hw [] W pn u2 T5.heap n0 O5 x2) hZ (hw _ (List.mem_of_getElem? (i := 44) rfl)) (hw _ (List.mem_of_getElem? (i := 3) rfl)) (by decide) (by decide)) (g := (mkF m 55 #[.val (.int p1), .val (.int p2), .val (.int pn), .val (.ref ue), .val (.ref w_n11), .val (.ref b3_bb), .val (.ref b5_bb)] [(.int pn), (.ref b3_bb)])) rfl (by rw [hml]; rfl) (argsL := [(.int pn)]) (rest := [(.ref b3_bb)]) (lenOf pd_4 rfl) rfl (by show 2 * 0 + _ ≤ _; exact Nat.le_of_eq rfl) (hb hby at_55) (fun _ _ => ⟨rfl, e7, (by decide : 2 + 0 ≤ _), (by decide : 2 + 0 ≤ _)⟩)
  dsimp only [Pt.U, Pt.locs, Pt.cells, Pt.slots] at X8 l8 y8 z8 st8 hQ8
  subst l8 y8 z8
  obtain ⟨rfl, N8q, e8⟩ := hQ8
  have N8 := Fr.app N7 N8q
  obtain ⟨_, _, ⟨T9, L9, k9, n9⟩, -, X9, ⟨Lc9, hQ9, l9, y9, z9⟩, st9⟩ := Jvm.LawKit.callS X8 hx (y := (⟨"com/example/usher/usher/wire/ErrorCodeForCodePinLaw", "same", "(Ljava/util/Optional;Lcom/example/usher/usher/wire/ErrorCode;)Z"⟩ : MethodName)) hown (mvT hZ (hw _ (List.mem_of_getElem? (i := 46) rfl))) (mvT hZ (hw _ (List.mem_of_getElem? (i := 47) rfl))) (mvT hZ (hw _ (List.mem_of_getElem? (i := 3) rfl))) (mvT hZ (hw _ (List.mem_of_getElem? (i := 48) rfl))) (by decide) (backOf (W := 0) (rm_sar l Z a0 hw [] W b3_bb u2 T5.heap n0 O5 f5_0 f5_1) hZ (hw _ (List.mem_of_getElem? (i := 48) rfl)) (hw _ (List.mem_of_getElem? (i := 3) rfl)) (by decide) (by decide)) (g := (mkF m 58 #[.val (.int p1), .val (.int p2), .val (.int pn), .val (.ref ue), .val (.ref w_n11), .val (.ref b3_bb), .val (.ref b5_bb)] [(.ref u2), (.ref b3_bb)])) rfl (by rw [hml]; rfl) (argsL := [(.ref b3_bb), (.ref u2)]) (rest := []) (lenOf pd_7 rfl) rfl (by show 2 * 0 + _ ≤ _; exact Nat.le_of_eq rfl) (hb hby at_58) (fun _ _ => ⟨rfl, e8, (by decide : 2 + 0 ≤ _), (by decide : 2 + 0 ≤ _)⟩)
  dsimp only [Pt.U, Pt.locs, Pt.cells, Pt.slots] at X9 l9 y9 z9 st9 hQ9
  subst l9 y9 z9
  obtain ⟨rfl, N9q, e9⟩ := hQ9
  have N9 := Fr.app N8 N9q
  obtain ⟨_, _, ⟨T10, L10, k10, n10⟩, -, X10, ⟨Lc10, hQ10, l10, y10, z10⟩, st10⟩ := Jvm.LawKit.callS X9 hx (y := (⟨"com/example/usher/usher/wire/ErrorCodeForCodePinLaw", "same", "(Ljava/util/Optional;Lcom/example/usher/usher/wire/ErrorCode;)Z"⟩ : MethodName)) hown (mvT hZ (hw _ (List.mem_of_getElem? (i := 46) rfl))) (mvT hZ (hw _ (List.mem_of_getElem? (i := 47) rfl))) (mvT hZ (hw _ (List.mem_of_getElem? (i := 3) rfl))) (mvT hZ (hw _ (List.mem_of_getElem? (i := 48) rfl))) (by decide) (backOf (W := 0) (rm_sar l Z a0 hw [] W b5_bb ue T5.heap n0 O5 fp5_0 fp5_1) hZ (hw _ (List.mem_of_getElem? (i := 48) rfl)) (hw _ (List.mem_of_getElem? (i := 3) rfl)) (by decide) (by decide)) (g := (mkF m 67 #[.val (.int p1), .val (.int p2), .val (.int pn), .val (.ref ue), .val (.ref w_n11), .val (.ref b3_bb), .val (.ref b5_bb)] [(.ref ue), (.ref b5_bb)])) rfl (by rw [hml]; rfl) (argsL := [(.ref b5_bb), (.ref ue)]) (rest := []) (lenOf pd_7 rfl) rfl (by show 2 * 0 + _ ≤ _; exact Nat.le_of_eq rfl) (hb hby at_67) (fun _ _ => ⟨rfl, e9, (by decide : 2 + 0 ≤ _), (by decide : 2 + 0 ≤ _)⟩)
  dsimp only [Pt.U, Pt.locs, Pt.cells, Pt.slots] at X10 l10 y10 z10 st10 hQ10
  subst l10 y10 z10
  obtain ⟨rfl, N10q, e10⟩ := hQ10
  have N10 := Fr.app N9 N10q
  obtain ⟨fs, hr, hrun, hended, hW, hsame⟩ := X10.leave (v := some (.int (1 : Int32))) (fun h => by rw [Bd.returns] at h; cases h)
  refine ⟨_, _, pre0 _ ?_, hrun, hended, _, _, rfl, ?_, ⟨_, rfl⟩, hW, hsame.mono (by decide) (by decide)⟩
  · show Steps p.tables e below (s₁.setTop (mkF m 0 #[.val (.int p1), .val (.int p2), .unset, .unset, .unset, .unset, .unset] [])) _
    refine XS.iloadN X0.here hx rfl (hb hby at_0) rfl ?_
    show Steps p.tables e below (s₁.setTop (mkF m 1 #[.val (.int p1), .val (.int p2), .unset, .unset, .unset, .unset, .unset] [(.int p2)])) _
    refine XS.iconst X0.here hx rfl (hb hby at_1) ?_
    show Steps p.tables e below (s₁.setTop (mkF m 2 #[.val (.int p1), .val (.int p2), .unset, .unset, .unset, .unset, .unset] [(.int (4 : Int32)), (.int p2)])) _
    refine XS.iushr X0.here hx rfl (hb hby at_2) rfl ?_
    show Steps p.tables e below (s₁.setTop (mkF m 3 #[.val (.int p1), .val (.int p2), .unset, .unset, .unset, .unset, .unset] [(.int ((p2.toUInt32 >>> ((4 : Int32) &&& 31).toUInt32).toInt32))])) _
    refine XS.bipush X0.here hx rfl (hb hby at_3) ?_
    show Steps p.tables e below (s₁.setTop (mkF m 5 #[.val (.int p1), .val (.int p2), .unset, .unset, .unset, .unset, .unset] [(.int (127 : Int32)), (.int ((p2.toUInt32 >>> ((4 : Int32) &&& 31).toUInt32).toInt32))])) _
    refine XS.iand X0.here hx rfl (hb hby at_5) rfl ?_
    show Steps p.tables e below (s₁.setTop (mkF m 6 #[.val (.int p1), .val (.int p2), .unset, .unset, .unset, .unset, .unset] [(.int (((p2.toUInt32 >>> ((4 : Int32) &&& 31).toUInt32).toInt32) &&& (127 : Int32)))])) _
    refine XS.ineg X0.here hx rfl (hb hby at_6) rfl ?_
    show Steps p.tables e below (s₁.setTop (mkF m 7 #[.val (.int p1), .val (.int p2), .unset, .unset, .unset, .unset, .unset] [(.int (-(((p2.toUInt32 >>> ((4 : Int32) &&& 31).toUInt32).toInt32) &&& (127 : Int32))))])) _
    rw [hnr]
    show Steps p.tables e below (s₁.setTop (mkF m 7 #[.val (.int p1), .val (.int p2), .unset, .unset, .unset, .unset, .unset] [(.int pn)])) _
    refine XS.istoreN X0.here hx rfl (hb hby at_7) rfl (l' := #[.val (.int p1), .val (.int p2), .val (.int pn), .unset, .unset, .unset, .unset]) rfl ?_
    show Steps p.tables e below (s₁.setTop (mkF m 8 #[.val (.int p1), .val (.int p2), .val (.int pn), .unset, .unset, .unset, .unset] [])) _
    refine XS.iloadN X0.here hx rfl (hb hby at_8) rfl ?_
    show Steps p.tables e below (s₁.setTop (mkF m 9 #[.val (.int p1), .val (.int p2), .val (.int pn), .unset, .unset, .unset, .unset] [(.int p2)])) _
    refine X0.ldcInt hx hown (mvT hZ (hw _ (List.mem_of_getElem? (i := 0) rfl))) (g := (mkF m 9 #[.val (.int p1), .val (.int p2), .val (.int pn), .unset, .unset, .unset, .unset] [(.int p2)])) rfl (hb hby at_9) _ ?_
    show Steps p.tables e below (s₁.setTop (mkF m 11 #[.val (.int p1), .val (.int p2), .val (.int pn), .unset, .unset, .unset, .unset] [(.int (2147483647 : Int32)), (.int p2)])) _
    refine XS.iand X0.here hx rfl (hb hby at_11) rfl ?_
    show Steps p.tables e below (s₁.setTop (mkF m 12 #[.val (.int p1), .val (.int p2), .val (.int pn), .unset, .unset, .unset, .unset] [(.int (p2 &&& (2147483647 : Int32)))])) _
    refine XS.bipush X0.here hx rfl (hb hby at_12) ?_
    show Steps p.tables e below (s₁.setTop (mkF m 14 #[.val (.int p1), .val (.int p2), .val (.int pn), .unset, .unset, .unset, .unset] [(.int (11 : Int32)), (.int (p2 &&& (2147483647 : Int32)))])) _
    refine iremM X0 hx rfl (hb hby at_14) rfl (by decide) ?_
    show Steps p.tables e below (s₁.setTop (mkF m 15 #[.val (.int p1), .val (.int p2), .val (.int pn), .unset, .unset, .unset, .unset] [(.int ((p2 &&& (2147483647 : Int32)) % (11 : Int32)))])) _
    rw [hpi]
    show Steps p.tables e below (s₁.setTop (mkF m 15 #[.val (.int p1), .val (.int p2), .val (.int pn), .unset, .unset, .unset, .unset] [(.int pi)])) _
    refine st1 _ ?_
    show Steps p.tables e below (T1.setTop (mkF m 18 #[.val (.int p1), .val (.int p2), .val (.int pn), .unset, .unset, .unset, .unset] [(.ref ue)])) _
    refine XS.astoreN X1.here hx rfl (hb hby at_18) rfl rfl (l' := #[.val (.int p1), .val (.int p2), .val (.int pn), .val (.ref ue), .unset, .unset, .unset]) rfl ?_
    show Steps p.tables e below (T1.setTop (mkF m 19 #[.val (.int p1), .val (.int p2), .val (.int pn), .val (.ref ue), .unset, .unset, .unset] [])) _
    refine XS.iloadN X1.here hx rfl (hb hby at_19) rfl ?_
    show Steps p.tables e below (T1.setTop (mkF m 20 #[.val (.int p1), .val (.int p2), .val (.int pn), .val (.ref ue), .unset, .unset, .unset] [(.int p1)])) _
    refine st2 _ ?_
    show Steps p.tables e below (T2.setTop (mkF m 23 #[.val (.int p1), .val (.int p2), .val (.int pn), .val (.ref ue), .unset, .unset, .unset] [(.ref w_n11)])) _
    refine XS.astore X2.here hx rfl (hb hby at_23) rfl rfl (l' := #[.val (.int p1), .val (.int p2), .val (.int pn), .val (.ref ue), .val (.ref w_n11), .unset, .unset]) rfl ?_
    show Steps p.tables e below (T2.setTop (mkF m 25 #[.val (.int p1), .val (.int p2), .val (.int pn), .val (.ref ue), .val (.ref w_n11), .unset, .unset] [])) _
    refine XS.iloadN X2.here hx rfl (hb hby at_25) rfl ?_
    show Steps p.tables e below (T2.setTop (mkF m 26 #[.val (.int p1), .val (.int p2), .val (.int pn), .val (.ref ue), .val (.ref w_n11), .unset, .unset] [(.int pn)])) _
    refine st3 _ ?_
    show Steps p.tables e below (T3.setTop (mkF m 29 #[.val (.int p1), .val (.int p2), .val (.int pn), .val (.ref ue), .val (.ref w_n11), .unset, .unset] [(.ref b3_bb)])) _
    refine XS.astore X3.here hx rfl (hb hby at_29) rfl rfl (l' := #[.val (.int p1), .val (.int p2), .val (.int pn), .val (.ref ue), .val (.ref w_n11), .val (.ref b3_bb), .unset]) rfl ?_
    show Steps p.tables e below (T3.setTop (mkF m 31 #[.val (.int p1), .val (.int p2), .val (.int pn), .val (.ref ue), .val (.ref w_n11), .val (.ref b3_bb), .unset] [])) _
    refine XS.aloadN X3.here hx rfl (hb hby at_31) rfl rfl ?_
    show Steps p.tables e below (T3.setTop (mkF m 32 #[.val (.int p1), .val (.int p2), .val (.int pn), .val (.ref ue), .val (.ref w_n11), .val (.ref b3_bb), .unset] [(.ref ue)])) _
    refine st4.trans ?_
    show Steps p.tables e below (T4.setTop (mkF m 35 #[.val (.int p1), .val (.int p2), .val (.int pn), .val (.ref ue), .val (.ref w_n11), .val (.ref b3_bb), .unset] [(.int ce)])) _
    refine st5 _ ?_
    show Steps p.tables e below (T5.setTop (mkF m 38 #[.val (.int p1), .val (.int p2), .val (.int pn), .val (.ref ue), .val (.ref w_n11), .val (.ref b3_bb), .unset] [(.ref b5_bb)])) _
    refine XS.astore X5.here hx rfl (hb hby at_38) rfl rfl (l' := #[.val (.int p1), .val (.int p2), .val (.int pn), .val (.ref ue), .val (.ref w_n11), .val (.ref b3_bb), .val (.ref b5_bb)]) rfl ?_
    show Steps p.tables e below (T5.setTop (mkF m 40 #[.val (.int p1), .val (.int p2), .val (.int pn), .val (.ref ue), .val (.ref w_n11), .val (.ref b3_bb), .val (.ref b5_bb)] [])) _
    refine XS.aload X5.here hx rfl (hb hby at_40) rfl rfl ?_
    show Steps p.tables e below (T5.setTop (mkF m 42 #[.val (.int p1), .val (.int p2), .val (.int pn), .val (.ref ue), .val (.ref w_n11), .val (.ref b3_bb), .val (.ref b5_bb)] [(.ref w_n11)])) _
    refine XS.iloadN X5.here hx rfl (hb hby at_42) rfl ?_
    show Steps p.tables e below (T5.setTop (mkF m 43 #[.val (.int p1), .val (.int p2), .val (.int pn), .val (.ref ue), .val (.ref w_n11), .val (.ref b3_bb), .val (.ref b5_bb)] [(.int p1), (.ref w_n11)])) _
    refine st6 _ ?_
    show Steps p.tables e below (T6.setTop (mkF m 46 #[.val (.int p1), .val (.int p2), .val (.int pn), .val (.ref ue), .val (.ref w_n11), .val (.ref b3_bb), .val (.ref b5_bb)] [.null, (.ref w_n11)])) _
    refine st7 _ ?_
    show Steps p.tables e below (T7.setTop (mkF m 49 #[.val (.int p1), .val (.int p2), .val (.int pn), .val (.ref ue), .val (.ref w_n11), .val (.ref b3_bb), .val (.ref b5_bb)] [(.int (1 : Int32))])) _
    refine XS.ifNo X7.here hx rfl (hb hby at_49) rfl ((if0 _ _).trans (feq ((by decide) : ¬ ((1 : Int32) = (0 : Int32)))).1) ?_
    show Steps p.tables e below (T7.setTop (mkF m 52 #[.val (.int p1), .val (.int p2), .val (.int pn), .val (.ref ue), .val (.ref w_n11), .val (.ref b3_bb), .val (.ref b5_bb)] [])) _
    refine XS.aload X7.here hx rfl (hb hby at_52) rfl rfl ?_
    show Steps p.tables e below (T7.setTop (mkF m 54 #[.val (.int p1), .val (.int p2), .val (.int pn), .val (.ref ue), .val (.ref w_n11), .val (.ref b3_bb), .val (.ref b5_bb)] [(.ref b3_bb)])) _
    refine XS.iloadN X7.here hx rfl (hb hby at_54) rfl ?_
    show Steps p.tables e below (T7.setTop (mkF m 55 #[.val (.int p1), .val (.int p2), .val (.int pn), .val (.ref ue), .val (.ref w_n11), .val (.ref b3_bb), .val (.ref b5_bb)] [(.int pn), (.ref b3_bb)])) _
    refine st8 _ ?_
    show Steps p.tables e below (T8.setTop (mkF m 58 #[.val (.int p1), .val (.int p2), .val (.int pn), .val (.ref ue), .val (.ref w_n11), .val (.ref b3_bb), .val (.ref b5_bb)] [(.ref u2), (.ref b3_bb)])) _
    refine st9 _ ?_
    show Steps p.tables e below (T9.setTop (mkF m 61 #[.val (.int p1), .val (.int p2), .val (.int pn), .val (.ref ue), .val (.ref w_n11), .val (.ref b3_bb), .val (.ref b5_bb)] [(.int (1 : Int32))])) _
    refine XS.ifNo X9.here hx rfl (hb hby at_61) rfl ((if0 _ _).trans (feq ((by decide) : ¬ ((1 : Int32) = (0 : Int32)))).1) ?_
    show Steps p.tables e below (T9.setTop (mkF m 64 #[.val (.int p1), .val (.int p2), .val (.int pn), .val (.ref ue), .val (.ref w_n11), .val (.ref b3_bb), .val (.ref b5_bb)] [])) _
    refine XS.aload X9.here hx rfl (hb hby at_64) rfl rfl ?_
    show Steps p.tables e below (T9.setTop (mkF m 66 #[.val (.int p1), .val (.int p2), .val (.int pn), .val (.ref ue), .val (.ref w_n11), .val (.ref b3_bb), .val (.ref b5_bb)] [(.ref b5_bb)])) _
    refine XS.aloadN X9.here hx rfl (hb hby at_66) rfl rfl ?_
    show Steps p.tables e below (T9.setTop (mkF m 67 #[.val (.int p1), .val (.int p2), .val (.int pn), .val (.ref ue), .val (.ref w_n11), .val (.ref b3_bb), .val (.ref b5_bb)] [(.ref ue), (.ref b5_bb)])) _
    refine st10 _ ?_
    show Steps p.tables e below (T10.setTop (mkF m 70 #[.val (.int p1), .val (.int p2), .val (.int pn), .val (.ref ue), .val (.ref w_n11), .val (.ref b3_bb), .val (.ref b5_bb)] [(.int (1 : Int32))])) _
    refine XS.ifNo X10.here hx rfl (hb hby at_70) rfl ((if0 _ _).trans (feq ((by decide) : ¬ ((1 : Int32) = (0 : Int32)))).1) ?_
    show Steps p.tables e below (T10.setTop (mkF m 73 #[.val (.int p1), .val (.int p2), .val (.int pn), .val (.ref ue), .val (.ref w_n11), .val (.ref b3_bb), .val (.ref b5_bb)] [])) _
    refine XS.iconst X10.here hx rfl (hb hby at_73) ?_
    show Steps p.tables e below (T10.setTop (mkF m 74 #[.val (.int p1), .val (.int p2), .val (.int pn), .val (.ref ue), .val (.ref w_n11), .val (.ref b3_bb), .val (.ref b5_bb)] [(.int (1 : Int32))])) _
    refine XS.goto X10.here hx rfl (pc0 := 74) (pc' := 78) rfl (hb hby at_74) (by decide) (by decide) ?_
    show Steps p.tables e below (T10.setTop (mkF m 78 #[.val (.int p1), .val (.int p2), .val (.int pn), .val (.ref ue), .val (.ref w_n11), .val (.ref b3_bb), .val (.ref b5_bb)] [(.int (1 : Int32))])) _
    exact retN X10 hx (t := .boolean) Bd.returns (by simp) (hb hby at_78) hr
  · show Q0 n0 _ T10.heap _
    rw [e10]
    exact ⟨rfl, N10⟩
set_option maxRecDepth 65536 in
set_option maxHeartbeats 40000000 in
theorem rm0_10 (l : Launch) (Z : State) (a0 : Array Value) (hw : ∀ d ∈ tables_1, d.before a0 Z = true) (ws : List Jvm.Cond) {w_n5 : Addr} {w_n10 : Addr} {w_OK : Addr} {w_n1 : Addr} {w_n2 : Addr} {w_n4 : Addr} {w_n9 : Addr} {w_n6 : Addr} {w_n0 : Addr} {w_n7 : Addr} {w_n8 : Addr} {w_n3 : Addr} {w_n11 : Addr} {k_n10 : ClassId} (W : Wd Z w_n5 w_n10 w_OK w_n1 w_n2 w_n4 w_n9 w_n6 w_n0 w_n7 w_n8 w_n3 w_n11 k_n10) (p1 : Int32) (p2 : Int32) (pn : Int32) (pi : Int32) (ue : Addr) (ce : Int32) (u1 : Addr) (h0 : Heap) (n0 : Nat) (O0 : Old Z n0 h0) (hnr : (-(((p2.toUInt32 >>> ((4 : Int32) &&& 31).toUInt32).toInt32) &&& (127 : Int32))) = pn) (hpi : ((p2 &&& (2147483647 : Int32)) % (11 : Int32)) = pi) (hpk : pkC w_OK w_n1 w_n2 w_n5 w_n4 w_n9 w_n6 w_n0 w_n7 w_n8 w_n3 pi = ue) (x3 : exC w_OK w_n1 w_n2 w_n5 w_n4 w_n9 w_n6 w_n0 w_n7 w_n8 w_n3 ce = .ref ue) (x1 : exC w_OK w_n1 w_n2 w_n5 w_n4 w_n9 w_n6 w_n0 w_n7 w_n8 w_n3 p1 = .ref u1) (x2 : exC w_OK w_n1 w_n2 w_n5 w_n4 w_n9 w_n6 w_n0 w_n7 w_n8 w_n3 pn = .null) (ho0 : Exa Z Z.heap ue "com/example/usher/usher/wire/ErrorCode") (ho1 : Fld Z Z.heap ue "com/example/usher/usher/wire/ErrorCode" "code" "I" (.int ce)) :
    MetFree l x (head1 (Jvm.Cond.code x code maxLocals ret :: ws) room_1) (fun a U => a = #[(.int p1), (.int p2)] ∧ Z.Warmed39 U.vm ∧ U.heap = h0) (fun _ _ _ _ _ => True) (fun _ U o U' => ∃ v L, o = .returned v ∧ Q0 n0 v U'.heap L ∧ FrameEnd U o U' L room_1.cells room_1.slots) := by
  have W' := W; obtain ⟨S_n5, E_n5, S_n10, S_OK, E_OK, S_n1, E_n1, S_n2, E_n2, S_n4, E_n4, S_n9, E_n9, S_n6, E_n6, S_n0, E_n0, S_n7, E_n7, S_n8, E_n8, S_n3, E_n3, S_n11, E_n11, F_OK_code, F_n5_code, F_n1_code, F_n2_code, F_n4_code, F_n9_code, F_n6_code, F_n0_code, F_n7_code, F_n8_code, F_n3_code, F_n11_value, V_n10⟩ := W'
  refine MetFree.of_bodySF (plainFor_of_name pn_0) hisR ?_
  intro p e s m args below meth c s₁ Bd hml0 hP hK
  obtain ⟨rfl, hZ, hh⟩ := hP
  have hx := Bd.exec
  have hby := Bd.bytes
  have hml : c.maxLocals = 7 := hml0
  have hown : s.vm.findClass "com/example/usher/usher/wire/ErrorCodeForCodePinLaw" = some m.cls := findClass_of_methodNamed Bd.named
  have hnm := (name_of_methodNamed Bd.named Bd.method).1
  have X0 : Stand p l e room_1 s m #[(.int p1), (.int p2)] below meth c s₁ [] 0 0 := Stand.of_body Bd
  have e0 : s₁.heap = h0 := by rw [← hh, Bd.state]; rfl
  have N0 := Fr.nil n0
  have pre0 : ∀ t, Steps p.tables e below (s₁.setTop (mkF m 0 #[.val (.int p1), .val (.int p2), .unset, .unset, .unset, .unset, .unset] [])) t → Steps p.tables e below (s₁.setTop (entryFrame m #[(.int p1), (.int p2)] maxLocals)) t := fun t k => castTop (ef_0_11 m p1 p2) k
  obtain ⟨_, _, ⟨T1, L1, k1, n1⟩, -, X1, ⟨Lc1, hQ1, l1, y1, z1⟩, st1⟩ := Jvm.LawKit.callS X0 hx (y := (⟨"com/example/usher/usher/wire/ErrorCodeForCodePinLaw", "pick", "(I)Lcom/example/usher/usher/wire/ErrorCode;"⟩ : MethodName)) hown (mvT hZ (hw _ (List.mem_of_getElem? (i := 1) rfl))) (mvT hZ (hw _ (List.mem_of_getElem? (i := 2) rfl))) (mvT hZ (hw _ (List.mem_of_getElem? (i := 3) rfl))) (mvT hZ (hw _ (List.mem_of_getElem? (i := 4) rfl))) (by decide) (backOf (W := 0) (rm_pk l Z a0 hw [] W pi ue h0 n0 O0 hpk) hZ (hw _ (List.mem_of_getElem? (i := 4) rfl)) (hw _ (List.mem_of_getElem? (i := 3) rfl)) (by decide) (by decide)) (g := (mkF m 15 #[.val (.int p1), .val (.int p2), .val (.int pn), .unset, .unset, .unset, .unset] [(.int pi)])) rfl (by rw [hml]; rfl) (argsL := [(.int pi)]) (rest := []) (lenOf pd_4 rfl) rfl (by show 2 * 0 + _ ≤ _; exact Nat.le_of_eq rfl) (hb hby at_15) (fun _ _ => ⟨rfl, e0, (by decide : 0 + 0 ≤ _), (by decide : 0 + 0 ≤ _)⟩)
  dsimp only [Pt.U, Pt.locs, Pt.cells, Pt.slots] at X1 l1 y1 z1 st1 hQ1
  subst l1 y1 z1
  obtain ⟨rfl, N1q, e1⟩ := hQ1
  have N1 := Fr.app N0 N1q
  obtain ⟨_, _, ⟨T2, L2, k2, n2⟩, -, X2, ⟨Lc2, hQ2, l2, y2, z2⟩, st2⟩ := Jvm.LawKit.callS X1 hx (y := (⟨"com/example/usher/usher/wire/ErrorCode", "forCode", "(I)Ljava/util/Optional;"⟩ : MethodName)) hown (mvT hZ (hw _ (List.mem_of_getElem? (i := 8) rfl))) (mvT hZ (hw _ (List.mem_of_getElem? (i := 9) rfl))) (mvT hZ (hw _ (List.mem_of_getElem? (i := 6) rfl))) (mvT hZ (hw _ (List.mem_of_getElem? (i := 10) rfl))) (by decide) (backOf (W := 0) (rm_fcr l Z a0 hw [] W p1 u1 h0 n0 O0 x1) hZ (hw _ (List.mem_of_getElem? (i := 10) rfl)) (hw _ (List.mem_of_getElem? (i := 6) rfl)) (by decide) (by decide)) (g := (mkF m 20 #[.val (.int p1), .val (.int p2), .val (.int pn), .val (.ref ue), .unset, .unset, .unset] [(.int p1)])) rfl (by rw [hml]; rfl) (argsL := [(.int p1)]) (rest := []) (lenOf pd_5 rfl) rfl (by show 2 * 0 + _ ≤ _; exact Nat.le_of_eq rfl) (hb hby at_20) (fun _ _ => ⟨rfl, e1, (by decide : 0 + 1 ≤ _), (by decide : 0 + 1 ≤ _)⟩)
  dsimp only [Pt.U, Pt.locs, Pt.cells, Pt.slots] at X2 l2 y2 z2 st2 hQ2
  subst l2 y2 z2
  obtain ⟨N2q, hP2⟩ := hQ2
  have N2 := Fr.app N1 N2q
  obtain ⟨b2_bb, rfl, Kp2, g_b2_bb, si_b2_bb, fp2_0, fp2_1⟩ := hP2
  have O2 := O0.keep Kp2 all0
  obtain ⟨_, _, ⟨T3, L3, k3, n3⟩, -, X3, ⟨Lc3, hQ3, l3, y3, z3⟩, st3⟩ := Jvm.LawKit.callS X2 hx (y := (⟨"com/example/usher/usher/wire/ErrorCode", "forCode", "(I)Ljava/util/Optional;"⟩ : MethodName)) hown (mvT hZ (hw _ (List.mem_of_getElem? (i := 8) rfl))) (mvT hZ (hw _ (List.mem_of_getElem? (i := 9) rfl))) (mvT hZ (hw _ (List.mem_of_getElem? (i := 6) rfl))) (mvT hZ (hw _ (List.mem_of_getElem? (i := 10) rfl))) (by decide) (backOf (W := 0) (rm_fcn l Z a0 hw [] W pn T2.heap n0 O2 x2) hZ (hw _ (List.mem_of_getElem? (i := 10) rfl)) (hw _ (List.mem_of_getElem? (i := 6) rfl)) (by decide) (by decide)) (g := (mkF m 26 #[.val (.int p1), .val (.int p2), .val (.int pn), .val (.ref ue), .val (.ref b2_bb), .unset, .unset] [(.int pn)])) rfl (by rw [hml]; rfl) (argsL := [(.int pn)]) (rest := []) (lenOf pd_5 rfl) rfl (by show 2 * 0 + _ ≤ _; exact Nat.le_of_eq rfl) (hb hby at_26) (fun _ _ => ⟨rfl, rfl, (by decide : 1 + 0 ≤ _), (by decide : 1 + 0 ≤ _)⟩)
  dsimp only [Pt.U, Pt.locs, Pt.cells, Pt.slots] at X3 l3 y3 z3 st3 hQ3
  subst l3 y3 z3
  obtain ⟨rfl, N3q, e3⟩ := hQ3
  have N3 := Fr.app N2 N3q
  obtain ⟨cq4, kq4, q4a, q4b, q4c⟩ := isOf hZ e3 (ho0.ext O2.2)
  obtain ⟨_, _, ⟨T4, L4, k4, n4⟩, -, X4, ⟨Lc4, hQ4, l4, y4, z4⟩, st4⟩ := X3.virtualBack hx (y := (⟨"com/example/usher/usher/wire/ErrorCode", "code", "()I"⟩ : MethodName)) (z := (⟨"com/example/usher/usher/wire/ErrorCode", "code", "()I"⟩ : MethodName)) hown (mvT hZ (hw _ (List.mem_of_getElem? (i := 35) rfl))) (mvT hZ (hw _ (List.mem_of_getElem? (i := 36) rfl))) (notFace_of_selects (args := #[]) (mvT hZ (hw _ (List.mem_of_getElem? (i := 38) rfl)))) (mvT hZ (hw _ (List.mem_of_getElem? (i := 38) rfl))) (mvT hZ (hw _ (List.mem_of_getElem? (i := 37) rfl))) (by decide) (backOf (W := 0) (rm_cod l Z a0 hw [] W ue ce T2.heap n0 O2 (ho1.ext O2.2)) hZ (hw _ (List.mem_of_getElem? (i := 39) rfl)) (hw _ (List.mem_of_getElem? (i := 6) rfl)) (by decide) (by decide)) q4a q4c (g := (mkF m 32 #[.val (.int p1), .val (.int p2), .val (.int pn), .val (.ref ue), .val (.ref b2_bb), .val (.ref w_n11), .unset] [(.ref ue)])) rfl (by rw [hml]; rfl) (Steps.refl _) (argsL := []) (rest := []) (lenOf pd_6 rfl) rfl (by show 2 * 0 + _ ≤ _; exact Nat.le_of_eq rfl) (hb hby at_32) (fun _ _ => ⟨rfl, e3, (by decide : 1 + 0 ≤ _), (by decide : 1 + 0 ≤ _)⟩)
  dsimp only [Pt.U, Pt.locs, Pt.cells, Pt.slots] at X4 l4 y4 z4 st4 hQ4
  subst l4 y4 z4
  obtain ⟨rfl, N4q, e4⟩ := hQ4
  have N4 := Fr.app N3 N4q
  obtain ⟨_, _, ⟨T5, L5, k5, n5⟩, -, X5, ⟨Lc5, hQ5, l5, y5, z5⟩, st5⟩ := Jvm.LawKit.callS X4 hx (y := (⟨"com/example/usher/usher/wire/ErrorCode", "forCode", "(I)Ljava/util/Optional;"⟩ : MethodName)) hown (mvT hZ (hw _ (List.mem_of_getElem? (i := 8) rfl))) (mvT hZ (hw _ (List.mem_of_getElem? (i := 9) rfl))) (mvT hZ (hw _ (List.mem_of_getElem? (i := 6) rfl))) (mvT hZ (hw _ (List.mem_of_getElem? (i := 10) rfl))) (by decide) (backOf (W := 0) (rm_fcr l Z a0 hw [] W ce ue T2.heap n0 O2 x3) hZ (hw _ (List.mem_of_getElem? (i := 10) rfl)) (hw _ (List.mem_of_getElem? (i := 6) rfl)) (by decide) (by decide)) (g := (mkF m 35 #[.val (.int p1), .val (.int p2), .val (.int pn), .val (.ref ue), .val (.ref b2_bb), .val (.ref w_n11), .unset] [(.int ce)])) rfl (by rw [hml]; rfl) (argsL := [(.int ce)]) (rest := []) (lenOf pd_5 rfl) rfl (by show 2 * 0 + _ ≤ _; exact Nat.le_of_eq rfl) (hb hby at_35) (fun _ _ => ⟨rfl, e4, (by decide : 1 + 1 ≤ _), (by decide : 1 + 1 ≤ _)⟩)
  dsimp only [Pt.U, Pt.locs, Pt.cells, Pt.slots] at X5 l5 y5 z5 st5 hQ5
  subst l5 y5 z5
  obtain ⟨N5q, hP5⟩ := hQ5
  have N5 := Fr.app N4 N5q
  obtain ⟨b5_bb, rfl, Kp5, g_b5_bb, si_b5_bb, fp5_0, fp5_1⟩ := hP5
  have f5_0 : Exa Z T5.heap b2_bb "java/util/Optional" := (fp2_0).keep Kp5
  have f5_1 : Fld Z T5.heap b2_bb "java/util/Optional" "value" "Ljava/lang/Object;" (.ref u1) := (fp2_1).keep Kp5 nin0
  have O5 := O2.keep Kp5 all0
  obtain ⟨_, _, ⟨T6, L6, k6, n6⟩, -, X6, ⟨Lc6, hQ6, l6, y6, z6⟩, st6⟩ := Jvm.LawKit.callS X5 hx (y := (⟨"com/example/usher/usher/wire/ErrorCodeForCodePinLaw", "expected", "(I)Lcom/example/usher/usher/wire/ErrorCode;"⟩ : MethodName)) hown (mvT hZ (hw _ (List.mem_of_getElem? (i := 42) rfl))) (mvT hZ (hw _ (List.mem_of_getElem? (i := 43) rfl))) (mvT hZ (hw _ (List.mem_of_getElem? (i := 3) rfl))) (mvT hZ (hw _ (List.mem_of_getElem? (i := 44) rfl))) (by decide) (backOf (W := 1) (rm_exr l Z a0 hw [] W p1 u1 T5.heap n0 O5 x1) hZ (hw _ (List.mem_of_getElem? (i := 44) rfl)) (hw _ (List.mem_of_getElem? (i := 3) rfl)) (by decide) (by decide)) (g := (mkF m 43 #[.val (.int p1), .val (.int p2), .val (.int pn), .val (.ref ue), .val (.ref b2_bb), .val (.ref w_n11), .val (.ref b5_bb)] [(.int p1), (.ref b2_bb)])) rfl (by rw [hml]; rfl) (argsL := [(.int p1)]) (rest := [(.ref b2_bb)]) (lenOf pd_4 rfl) rfl (by show 2 * 0 + _ ≤ _; exact Nat.le_of_eq rfl) (hb hby at_43) (fun _ _ => ⟨rfl, rfl, (by decide : 2 + 0 ≤ _), (by decide : 2 + 0 ≤ _)⟩)
  dsimp only [Pt.U, Pt.locs, Pt.cells, Pt.slots] at X6 l6 y6 z6 st6 hQ6
  subst l6 y6 z6
  obtain ⟨rfl, N6q, e6⟩ := hQ6
  have N6 := Fr.app N5 N6q
  obtain ⟨_, _, ⟨T7, L7, k7, n7⟩, -, X7, ⟨Lc7, hQ7, l7, y7, z7⟩, st7⟩ := Jvm.LawKit.callS X6 hx (y := (⟨"com/example/usher/usher/wire/ErrorCodeForCodePinLaw", "same", "(Ljava/util/Optional;Lcom/example/usher/usher/wire/ErrorCode;)Z"⟩ : MethodName)) hown (mvT hZ (hw _ (List.mem_of_getElem? (i := 46) rfl))) (mvT hZ (hw _ (List.mem_of_getElem? (i := 47) rfl))) (mvT hZ (hw _ (List.mem_of_getElem? (i := 3) rfl))) (mvT hZ (hw _ (List.mem_of_getElem? (i := 48) rfl))) (by decide) (backOf (W := 0) (rm_sar l Z a0 hw [] W b2_bb u1 T5.heap n0 O5 f5_0 f5_1) hZ (hw _ (List.mem_of_getElem? (i := 48) rfl)) (hw _ (List.mem_of_getElem? (i := 3) rfl)) (by decide) (by decide)) (g := (mkF m 46 #[.val (.int p1), .val (.int p2), .val (.int pn), .val (.ref ue), .val (.ref b2_bb), .val (.ref w_n11), .val (.ref b5_bb)] [(.ref u1), (.ref b2_bb)])) rfl (by rw [hml]; rfl) (argsL := [(.ref b2_bb), (.ref u1)]) (rest := []) (lenOf pd_7 rfl) rfl (by show 2 * 0 + _ ≤ _; exact Nat.le_of_eq rfl) (hb hby at_46) (fun _ _ => ⟨rfl, e6, (by decide : 2 + 0 ≤ _), (by decide : 2 + 0 ≤ _)⟩)
  dsimp only [Pt.U, Pt.locs, Pt.cells, Pt.slots] at X7 l7 y7 z7 st7 hQ7
  subst l7 y7 z7
  obtain ⟨rfl, N7q, e7⟩ := hQ7
  have N7 := Fr.app N6 N7q
  obtain ⟨_, _, ⟨T8, L8, k8, n8⟩, -, X8, ⟨Lc8, hQ8, l8, y8, z8⟩, st8⟩ := Jvm.LawKit.callS X7 hx (y := (⟨"com/example/usher/usher/wire/ErrorCodeForCodePinLaw", "expected", "(I)Lcom/example/usher/usher/wire/ErrorCode;"⟩ : MethodName)) hown (mvT hZ (hw _ (List.mem_of_getElem? (i := 42) rfl))) (mvT hZ (hw _ (List.mem_of_getElem? (i := 43) rfl))) (mvT hZ (hw _ (List.mem_of_getElem? (i := 3) rfl))) (mvT hZ (hw _ (List.mem_of_getElem? (i := 44) rfl))) (by decide) (backOf (W := 1) (rm_exn l Z a0 hw [] W pn T5.heap n0 O5 x2) hZ (hw _ (List.mem_of_getElem? (i := 44) rfl)) (hw _ (List.mem_of_getElem? (i := 3) rfl)) (by decide) (by decide)) (g := (mkF m 55 #[.val (.int p1), .val (.int p2), .val (.int pn), .val (.ref ue), .val (.ref b2_bb), .val (.ref w_n11), .val (.ref b5_bb)] [(.int pn), (.ref w_n11)])) rfl (by rw [hml]; rfl) (argsL := [(.int pn)]) (rest := [(.ref w_n11)]) (lenOf pd_4 rfl) rfl (by show 2 * 0 + _ ≤ _; exact Nat.le_of_eq rfl) (hb hby at_55) (fun _ _ => ⟨rfl, e7, (by decide : 2 + 0 ≤ _), (by decide : 2 + 0 ≤ _)⟩)
  dsimp only [Pt.U, Pt.locs, Pt.cells, Pt.slots] at X8 l8 y8 z8 st8 hQ8
  subst l8 y8 z8
  obtain ⟨rfl, N8q, e8⟩ := hQ8
  have N8 := Fr.app N7 N8q
  obtain ⟨_, _, ⟨T9, L9, k9, n9⟩, -, X9, ⟨Lc9, hQ9, l9, y9, z9⟩, st9⟩ := Jvm.LawKit.callS X8 hx (y := (⟨"com/example/usher/usher/wire/ErrorCodeForCodePinLaw", "same", "(Ljava/util/Optional;Lcom/example/usher/usher/wire/ErrorCode;)Z"⟩ : MethodName)) hown (mvT hZ (hw _ (List.mem_of_getElem? (i := 46) rfl))) (mvT hZ (hw _ (List.mem_of_getElem? (i := 47) rfl))) (mvT hZ (hw _ (List.mem_of_getElem? (i := 3) rfl))) (mvT hZ (hw _ (List.mem_of_getElem? (i := 48) rfl))) (by decide) (backOf (W := 0) (rm_san l Z a0 hw [] W  T5.heap n0 O5 ) hZ (hw _ (List.mem_of_getElem? (i := 48) rfl)) (hw _ (List.mem_of_getElem? (i := 3) rfl)) (by decide) (by decide)) (g := (mkF m 58 #[.val (.int p1), .val (.int p2), .val (.int pn), .val (.ref ue), .val (.ref b2_bb), .val (.ref w_n11), .val (.ref b5_bb)] [.null, (.ref w_n11)])) rfl (by rw [hml]; rfl) (argsL := [(.ref w_n11), .null]) (rest := []) (lenOf pd_7 rfl) rfl (by show 2 * 0 + _ ≤ _; exact Nat.le_of_eq rfl) (hb hby at_58) (fun _ _ => ⟨rfl, e8, (by decide : 2 + 0 ≤ _), (by decide : 2 + 0 ≤ _)⟩)
  dsimp only [Pt.U, Pt.locs, Pt.cells, Pt.slots] at X9 l9 y9 z9 st9 hQ9
  subst l9 y9 z9
  obtain ⟨rfl, N9q, e9⟩ := hQ9
  have N9 := Fr.app N8 N9q
  obtain ⟨_, _, ⟨T10, L10, k10, n10⟩, -, X10, ⟨Lc10, hQ10, l10, y10, z10⟩, st10⟩ := Jvm.LawKit.callS X9 hx (y := (⟨"com/example/usher/usher/wire/ErrorCodeForCodePinLaw", "same", "(Ljava/util/Optional;Lcom/example/usher/usher/wire/ErrorCode;)Z"⟩ : MethodName)) hown (mvT hZ (hw _ (List.mem_of_getElem? (i := 46) rfl))) (mvT hZ (hw _ (List.mem_of_getElem? (i := 47) rfl))) (mvT hZ (hw _ (List.mem_of_getElem? (i := 3) rfl))) (mvT hZ (hw _ (List.mem_of_getElem? (i := 48) rfl))) (by decide) (backOf (W := 0) (rm_sar l Z a0 hw [] W b5_bb ue T5.heap n0 O5 fp5_0 fp5_1) hZ (hw _ (List.mem_of_getElem? (i := 48) rfl)) (hw _ (List.mem_of_getElem? (i := 3) rfl)) (by decide) (by decide)) (g := (mkF m 67 #[.val (.int p1), .val (.int p2), .val (.int pn), .val (.ref ue), .val (.ref b2_bb), .val (.ref w_n11), .val (.ref b5_bb)] [(.ref ue), (.ref b5_bb)])) rfl (by rw [hml]; rfl) (argsL := [(.ref b5_bb), (.ref ue)]) (rest := []) (lenOf pd_7 rfl) rfl (by show 2 * 0 + _ ≤ _; exact Nat.le_of_eq rfl) (hb hby at_67) (fun _ _ => ⟨rfl, e9, (by decide : 2 + 0 ≤ _), (by decide : 2 + 0 ≤ _)⟩)
  dsimp only [Pt.U, Pt.locs, Pt.cells, Pt.slots] at X10 l10 y10 z10 st10 hQ10
  subst l10 y10 z10
  obtain ⟨rfl, N10q, e10⟩ := hQ10
  have N10 := Fr.app N9 N10q
  obtain ⟨fs, hr, hrun, hended, hW, hsame⟩ := X10.leave (v := some (.int (1 : Int32))) (fun h => by rw [Bd.returns] at h; cases h)
  refine ⟨_, _, pre0 _ ?_, hrun, hended, _, _, rfl, ?_, ⟨_, rfl⟩, hW, hsame.mono (by decide) (by decide)⟩
  · show Steps p.tables e below (s₁.setTop (mkF m 0 #[.val (.int p1), .val (.int p2), .unset, .unset, .unset, .unset, .unset] [])) _
    refine XS.iloadN X0.here hx rfl (hb hby at_0) rfl ?_
    show Steps p.tables e below (s₁.setTop (mkF m 1 #[.val (.int p1), .val (.int p2), .unset, .unset, .unset, .unset, .unset] [(.int p2)])) _
    refine XS.iconst X0.here hx rfl (hb hby at_1) ?_
    show Steps p.tables e below (s₁.setTop (mkF m 2 #[.val (.int p1), .val (.int p2), .unset, .unset, .unset, .unset, .unset] [(.int (4 : Int32)), (.int p2)])) _
    refine XS.iushr X0.here hx rfl (hb hby at_2) rfl ?_
    show Steps p.tables e below (s₁.setTop (mkF m 3 #[.val (.int p1), .val (.int p2), .unset, .unset, .unset, .unset, .unset] [(.int ((p2.toUInt32 >>> ((4 : Int32) &&& 31).toUInt32).toInt32))])) _
    refine XS.bipush X0.here hx rfl (hb hby at_3) ?_
    show Steps p.tables e below (s₁.setTop (mkF m 5 #[.val (.int p1), .val (.int p2), .unset, .unset, .unset, .unset, .unset] [(.int (127 : Int32)), (.int ((p2.toUInt32 >>> ((4 : Int32) &&& 31).toUInt32).toInt32))])) _
    refine XS.iand X0.here hx rfl (hb hby at_5) rfl ?_
    show Steps p.tables e below (s₁.setTop (mkF m 6 #[.val (.int p1), .val (.int p2), .unset, .unset, .unset, .unset, .unset] [(.int (((p2.toUInt32 >>> ((4 : Int32) &&& 31).toUInt32).toInt32) &&& (127 : Int32)))])) _
    refine XS.ineg X0.here hx rfl (hb hby at_6) rfl ?_
    show Steps p.tables e below (s₁.setTop (mkF m 7 #[.val (.int p1), .val (.int p2), .unset, .unset, .unset, .unset, .unset] [(.int (-(((p2.toUInt32 >>> ((4 : Int32) &&& 31).toUInt32).toInt32) &&& (127 : Int32))))])) _
    rw [hnr]
    show Steps p.tables e below (s₁.setTop (mkF m 7 #[.val (.int p1), .val (.int p2), .unset, .unset, .unset, .unset, .unset] [(.int pn)])) _
    refine XS.istoreN X0.here hx rfl (hb hby at_7) rfl (l' := #[.val (.int p1), .val (.int p2), .val (.int pn), .unset, .unset, .unset, .unset]) rfl ?_
    show Steps p.tables e below (s₁.setTop (mkF m 8 #[.val (.int p1), .val (.int p2), .val (.int pn), .unset, .unset, .unset, .unset] [])) _
    refine XS.iloadN X0.here hx rfl (hb hby at_8) rfl ?_
    show Steps p.tables e below (s₁.setTop (mkF m 9 #[.val (.int p1), .val (.int p2), .val (.int pn), .unset, .unset, .unset, .unset] [(.int p2)])) _
    refine X0.ldcInt hx hown (mvT hZ (hw _ (List.mem_of_getElem? (i := 0) rfl))) (g := (mkF m 9 #[.val (.int p1), .val (.int p2), .val (.int pn), .unset, .unset, .unset, .unset] [(.int p2)])) rfl (hb hby at_9) _ ?_
    show Steps p.tables e below (s₁.setTop (mkF m 11 #[.val (.int p1), .val (.int p2), .val (.int pn), .unset, .unset, .unset, .unset] [(.int (2147483647 : Int32)), (.int p2)])) _
    refine XS.iand X0.here hx rfl (hb hby at_11) rfl ?_
    show Steps p.tables e below (s₁.setTop (mkF m 12 #[.val (.int p1), .val (.int p2), .val (.int pn), .unset, .unset, .unset, .unset] [(.int (p2 &&& (2147483647 : Int32)))])) _
    refine XS.bipush X0.here hx rfl (hb hby at_12) ?_
    show Steps p.tables e below (s₁.setTop (mkF m 14 #[.val (.int p1), .val (.int p2), .val (.int pn), .unset, .unset, .unset, .unset] [(.int (11 : Int32)), (.int (p2 &&& (2147483647 : Int32)))])) _
    refine iremM X0 hx rfl (hb hby at_14) rfl (by decide) ?_
    show Steps p.tables e below (s₁.setTop (mkF m 15 #[.val (.int p1), .val (.int p2), .val (.int pn), .unset, .unset, .unset, .unset] [(.int ((p2 &&& (2147483647 : Int32)) % (11 : Int32)))])) _
    rw [hpi]
    show Steps p.tables e below (s₁.setTop (mkF m 15 #[.val (.int p1), .val (.int p2), .val (.int pn), .unset, .unset, .unset, .unset] [(.int pi)])) _
    refine st1 _ ?_
    show Steps p.tables e below (T1.setTop (mkF m 18 #[.val (.int p1), .val (.int p2), .val (.int pn), .unset, .unset, .unset, .unset] [(.ref ue)])) _
    refine XS.astoreN X1.here hx rfl (hb hby at_18) rfl rfl (l' := #[.val (.int p1), .val (.int p2), .val (.int pn), .val (.ref ue), .unset, .unset, .unset]) rfl ?_
    show Steps p.tables e below (T1.setTop (mkF m 19 #[.val (.int p1), .val (.int p2), .val (.int pn), .val (.ref ue), .unset, .unset, .unset] [])) _
    refine XS.iloadN X1.here hx rfl (hb hby at_19) rfl ?_
    show Steps p.tables e below (T1.setTop (mkF m 20 #[.val (.int p1), .val (.int p2), .val (.int pn), .val (.ref ue), .unset, .unset, .unset] [(.int p1)])) _
    refine st2 _ ?_
    show Steps p.tables e below (T2.setTop (mkF m 23 #[.val (.int p1), .val (.int p2), .val (.int pn), .val (.ref ue), .unset, .unset, .unset] [(.ref b2_bb)])) _
    refine XS.astore X2.here hx rfl (hb hby at_23) rfl rfl (l' := #[.val (.int p1), .val (.int p2), .val (.int pn), .val (.ref ue), .val (.ref b2_bb), .unset, .unset]) rfl ?_
    show Steps p.tables e below (T2.setTop (mkF m 25 #[.val (.int p1), .val (.int p2), .val (.int pn), .val (.ref ue), .val (.ref b2_bb), .unset, .unset] [])) _
    refine XS.iloadN X2.here hx rfl (hb hby at_25) rfl ?_
    show Steps p.tables e below (T2.setTop (mkF m 26 #[.val (.int p1), .val (.int p2), .val (.int pn), .val (.ref ue), .val (.ref b2_bb), .unset, .unset] [(.int pn)])) _
    refine st3 _ ?_
    show Steps p.tables e below (T3.setTop (mkF m 29 #[.val (.int p1), .val (.int p2), .val (.int pn), .val (.ref ue), .val (.ref b2_bb), .unset, .unset] [(.ref w_n11)])) _
    refine XS.astore X3.here hx rfl (hb hby at_29) rfl rfl (l' := #[.val (.int p1), .val (.int p2), .val (.int pn), .val (.ref ue), .val (.ref b2_bb), .val (.ref w_n11), .unset]) rfl ?_
    show Steps p.tables e below (T3.setTop (mkF m 31 #[.val (.int p1), .val (.int p2), .val (.int pn), .val (.ref ue), .val (.ref b2_bb), .val (.ref w_n11), .unset] [])) _
    refine XS.aloadN X3.here hx rfl (hb hby at_31) rfl rfl ?_
    show Steps p.tables e below (T3.setTop (mkF m 32 #[.val (.int p1), .val (.int p2), .val (.int pn), .val (.ref ue), .val (.ref b2_bb), .val (.ref w_n11), .unset] [(.ref ue)])) _
    refine st4.trans ?_
    show Steps p.tables e below (T4.setTop (mkF m 35 #[.val (.int p1), .val (.int p2), .val (.int pn), .val (.ref ue), .val (.ref b2_bb), .val (.ref w_n11), .unset] [(.int ce)])) _
    refine st5 _ ?_
    show Steps p.tables e below (T5.setTop (mkF m 38 #[.val (.int p1), .val (.int p2), .val (.int pn), .val (.ref ue), .val (.ref b2_bb), .val (.ref w_n11), .unset] [(.ref b5_bb)])) _
    refine XS.astore X5.here hx rfl (hb hby at_38) rfl rfl (l' := #[.val (.int p1), .val (.int p2), .val (.int pn), .val (.ref ue), .val (.ref b2_bb), .val (.ref w_n11), .val (.ref b5_bb)]) rfl ?_
    show Steps p.tables e below (T5.setTop (mkF m 40 #[.val (.int p1), .val (.int p2), .val (.int pn), .val (.ref ue), .val (.ref b2_bb), .val (.ref w_n11), .val (.ref b5_bb)] [])) _
    refine XS.aload X5.here hx rfl (hb hby at_40) rfl rfl ?_
    show Steps p.tables e below (T5.setTop (mkF m 42 #[.val (.int p1), .val (.int p2), .val (.int pn), .val (.ref ue), .val (.ref b2_bb), .val (.ref w_n11), .val (.ref b5_bb)] [(.ref b2_bb)])) _
    refine XS.iloadN X5.here hx rfl (hb hby at_42) rfl ?_
    show Steps p.tables e below (T5.setTop (mkF m 43 #[.val (.int p1), .val (.int p2), .val (.int pn), .val (.ref ue), .val (.ref b2_bb), .val (.ref w_n11), .val (.ref b5_bb)] [(.int p1), (.ref b2_bb)])) _
    refine st6 _ ?_
    show Steps p.tables e below (T6.setTop (mkF m 46 #[.val (.int p1), .val (.int p2), .val (.int pn), .val (.ref ue), .val (.ref b2_bb), .val (.ref w_n11), .val (.ref b5_bb)] [(.ref u1), (.ref b2_bb)])) _
    refine st7 _ ?_
    show Steps p.tables e below (T7.setTop (mkF m 49 #[.val (.int p1), .val (.int p2), .val (.int pn), .val (.ref ue), .val (.ref b2_bb), .val (.ref w_n11), .val (.ref b5_bb)] [(.int (1 : Int32))])) _
    refine XS.ifNo X7.here hx rfl (hb hby at_49) rfl ((if0 _ _).trans (feq ((by decide) : ¬ ((1 : Int32) = (0 : Int32)))).1) ?_
    show Steps p.tables e below (T7.setTop (mkF m 52 #[.val (.int p1), .val (.int p2), .val (.int pn), .val (.ref ue), .val (.ref b2_bb), .val (.ref w_n11), .val (.ref b5_bb)] [])) _
    refine XS.aload X7.here hx rfl (hb hby at_52) rfl rfl ?_
    show Steps p.tables e below (T7.setTop (mkF m 54 #[.val (.int p1), .val (.int p2), .val (.int pn), .val (.ref ue), .val (.ref b2_bb), .val (.ref w_n11), .val (.ref b5_bb)] [(.ref w_n11)])) _
    refine XS.iloadN X7.here hx rfl (hb hby at_54) rfl ?_
    show Steps p.tables e below (T7.setTop (mkF m 55 #[.val (.int p1), .val (.int p2), .val (.int pn), .val (.ref ue), .val (.ref b2_bb), .val (.ref w_n11), .val (.ref b5_bb)] [(.int pn), (.ref w_n11)])) _
    refine st8 _ ?_
    show Steps p.tables e below (T8.setTop (mkF m 58 #[.val (.int p1), .val (.int p2), .val (.int pn), .val (.ref ue), .val (.ref b2_bb), .val (.ref w_n11), .val (.ref b5_bb)] [.null, (.ref w_n11)])) _
    refine st9 _ ?_
    show Steps p.tables e below (T9.setTop (mkF m 61 #[.val (.int p1), .val (.int p2), .val (.int pn), .val (.ref ue), .val (.ref b2_bb), .val (.ref w_n11), .val (.ref b5_bb)] [(.int (1 : Int32))])) _
    refine XS.ifNo X9.here hx rfl (hb hby at_61) rfl ((if0 _ _).trans (feq ((by decide) : ¬ ((1 : Int32) = (0 : Int32)))).1) ?_
    show Steps p.tables e below (T9.setTop (mkF m 64 #[.val (.int p1), .val (.int p2), .val (.int pn), .val (.ref ue), .val (.ref b2_bb), .val (.ref w_n11), .val (.ref b5_bb)] [])) _
    refine XS.aload X9.here hx rfl (hb hby at_64) rfl rfl ?_
    show Steps p.tables e below (T9.setTop (mkF m 66 #[.val (.int p1), .val (.int p2), .val (.int pn), .val (.ref ue), .val (.ref b2_bb), .val (.ref w_n11), .val (.ref b5_bb)] [(.ref b5_bb)])) _
    refine XS.aloadN X9.here hx rfl (hb hby at_66) rfl rfl ?_
    show Steps p.tables e below (T9.setTop (mkF m 67 #[.val (.int p1), .val (.int p2), .val (.int pn), .val (.ref ue), .val (.ref b2_bb), .val (.ref w_n11), .val (.ref b5_bb)] [(.ref ue), (.ref b5_bb)])) _
    refine st10 _ ?_
    show Steps p.tables e below (T10.setTop (mkF m 70 #[.val (.int p1), .val (.int p2), .val (.int pn), .val (.ref ue), .val (.ref b2_bb), .val (.ref w_n11), .val (.ref b5_bb)] [(.int (1 : Int32))])) _
    refine XS.ifNo X10.here hx rfl (hb hby at_70) rfl ((if0 _ _).trans (feq ((by decide) : ¬ ((1 : Int32) = (0 : Int32)))).1) ?_
    show Steps p.tables e below (T10.setTop (mkF m 73 #[.val (.int p1), .val (.int p2), .val (.int pn), .val (.ref ue), .val (.ref b2_bb), .val (.ref w_n11), .val (.ref b5_bb)] [])) _
    refine XS.iconst X10.here hx rfl (hb hby at_73) ?_
    show Steps p.tables e below (T10.setTop (mkF m 74 #[.val (.int p1), .val (.int p2), .val (.int pn), .val (.ref ue), .val (.ref b2_bb), .val (.ref w_n11), .val (.ref b5_bb)] [(.int (1 : Int32))])) _
    refine XS.goto X10.here hx rfl (pc0 := 74) (pc' := 78) rfl (hb hby at_74) (by decide) (by decide) ?_
    show Steps p.tables e below (T10.setTop (mkF m 78 #[.val (.int p1), .val (.int p2), .val (.int pn), .val (.ref ue), .val (.ref b2_bb), .val (.ref w_n11), .val (.ref b5_bb)] [(.int (1 : Int32))])) _
    exact retN X10 hx (t := .boolean) Bd.returns (by simp) (hb hby at_78) hr
  · show Q0 n0 _ T10.heap _
    rw [e10]
    exact ⟨rfl, N10⟩
set_option maxRecDepth 65536 in
set_option maxHeartbeats 40000000 in
theorem rm0_11 (l : Launch) (Z : State) (a0 : Array Value) (hw : ∀ d ∈ tables_1, d.before a0 Z = true) (ws : List Jvm.Cond) {w_n5 : Addr} {w_n10 : Addr} {w_OK : Addr} {w_n1 : Addr} {w_n2 : Addr} {w_n4 : Addr} {w_n9 : Addr} {w_n6 : Addr} {w_n0 : Addr} {w_n7 : Addr} {w_n8 : Addr} {w_n3 : Addr} {w_n11 : Addr} {k_n10 : ClassId} (W : Wd Z w_n5 w_n10 w_OK w_n1 w_n2 w_n4 w_n9 w_n6 w_n0 w_n7 w_n8 w_n3 w_n11 k_n10) (p1 : Int32) (p2 : Int32) (pn : Int32) (pi : Int32) (ue : Addr) (ce : Int32) (u1 : Addr) (u2 : Addr) (h0 : Heap) (n0 : Nat) (O0 : Old Z n0 h0) (hnr : (-(((p2.toUInt32 >>> ((4 : Int32) &&& 31).toUInt32).toInt32) &&& (127 : Int32))) = pn) (hpi : ((p2 &&& (2147483647 : Int32)) % (11 : Int32)) = pi) (hpk : pkC w_OK w_n1 w_n2 w_n5 w_n4 w_n9 w_n6 w_n0 w_n7 w_n8 w_n3 pi = ue) (x3 : exC w_OK w_n1 w_n2 w_n5 w_n4 w_n9 w_n6 w_n0 w_n7 w_n8 w_n3 ce = .ref ue) (x1 : exC w_OK w_n1 w_n2 w_n5 w_n4 w_n9 w_n6 w_n0 w_n7 w_n8 w_n3 p1 = .ref u1) (x2 : exC w_OK w_n1 w_n2 w_n5 w_n4 w_n9 w_n6 w_n0 w_n7 w_n8 w_n3 pn = .ref u2) (ho0 : Exa Z Z.heap ue "com/example/usher/usher/wire/ErrorCode") (ho1 : Fld Z Z.heap ue "com/example/usher/usher/wire/ErrorCode" "code" "I" (.int ce)) :
    MetFree l x (head1 (Jvm.Cond.code x code maxLocals ret :: ws) room_1) (fun a U => a = #[(.int p1), (.int p2)] ∧ Z.Warmed39 U.vm ∧ U.heap = h0) (fun _ _ _ _ _ => True) (fun _ U o U' => ∃ v L, o = .returned v ∧ Q0 n0 v U'.heap L ∧ FrameEnd U o U' L room_1.cells room_1.slots) := by
  have W' := W; obtain ⟨S_n5, E_n5, S_n10, S_OK, E_OK, S_n1, E_n1, S_n2, E_n2, S_n4, E_n4, S_n9, E_n9, S_n6, E_n6, S_n0, E_n0, S_n7, E_n7, S_n8, E_n8, S_n3, E_n3, S_n11, E_n11, F_OK_code, F_n5_code, F_n1_code, F_n2_code, F_n4_code, F_n9_code, F_n6_code, F_n0_code, F_n7_code, F_n8_code, F_n3_code, F_n11_value, V_n10⟩ := W'
  refine MetFree.of_bodySF (plainFor_of_name pn_0) hisR ?_
  intro p e s m args below meth c s₁ Bd hml0 hP hK
  obtain ⟨rfl, hZ, hh⟩ := hP
  have hx := Bd.exec
  have hby := Bd.bytes
  have hml : c.maxLocals = 7 := hml0
  have hown : s.vm.findClass "com/example/usher/usher/wire/ErrorCodeForCodePinLaw" = some m.cls := findClass_of_methodNamed Bd.named
  have hnm := (name_of_methodNamed Bd.named Bd.method).1
  have X0 : Stand p l e room_1 s m #[(.int p1), (.int p2)] below meth c s₁ [] 0 0 := Stand.of_body Bd
  have e0 : s₁.heap = h0 := by rw [← hh, Bd.state]; rfl
  have N0 := Fr.nil n0
  have pre0 : ∀ t, Steps p.tables e below (s₁.setTop (mkF m 0 #[.val (.int p1), .val (.int p2), .unset, .unset, .unset, .unset, .unset] [])) t → Steps p.tables e below (s₁.setTop (entryFrame m #[(.int p1), (.int p2)] maxLocals)) t := fun t k => castTop (ef_0_11 m p1 p2) k
  obtain ⟨_, _, ⟨T1, L1, k1, n1⟩, -, X1, ⟨Lc1, hQ1, l1, y1, z1⟩, st1⟩ := Jvm.LawKit.callS X0 hx (y := (⟨"com/example/usher/usher/wire/ErrorCodeForCodePinLaw", "pick", "(I)Lcom/example/usher/usher/wire/ErrorCode;"⟩ : MethodName)) hown (mvT hZ (hw _ (List.mem_of_getElem? (i := 1) rfl))) (mvT hZ (hw _ (List.mem_of_getElem? (i := 2) rfl))) (mvT hZ (hw _ (List.mem_of_getElem? (i := 3) rfl))) (mvT hZ (hw _ (List.mem_of_getElem? (i := 4) rfl))) (by decide) (backOf (W := 0) (rm_pk l Z a0 hw [] W pi ue h0 n0 O0 hpk) hZ (hw _ (List.mem_of_getElem? (i := 4) rfl)) (hw _ (List.mem_of_getElem? (i := 3) rfl)) (by decide) (by decide)) (g := (mkF m 15 #[.val (.int p1), .val (.int p2), .val (.int pn), .unset, .unset, .unset, .unset] [(.int pi)])) rfl (by rw [hml]; rfl) (argsL := [(.int pi)]) (rest := []) (lenOf pd_4 rfl) rfl (by show 2 * 0 + _ ≤ _; exact Nat.le_of_eq rfl) (hb hby at_15) (fun _ _ => ⟨rfl, e0, (by decide : 0 + 0 ≤ _), (by decide : 0 + 0 ≤ _)⟩)
  dsimp only [Pt.U, Pt.locs, Pt.cells, Pt.slots] at X1 l1 y1 z1 st1 hQ1
  subst l1 y1 z1
  obtain ⟨rfl, N1q, e1⟩ := hQ1
  have N1 := Fr.app N0 N1q
  obtain ⟨_, _, ⟨T2, L2, k2, n2⟩, -, X2, ⟨Lc2, hQ2, l2, y2, z2⟩, st2⟩ := Jvm.LawKit.callS X1 hx (y := (⟨"com/example/usher/usher/wire/ErrorCode", "forCode", "(I)Ljava/util/Optional;"⟩ : MethodName)) hown (mvT hZ (hw _ (List.mem_of_getElem? (i := 8) rfl))) (mvT hZ (hw _ (List.mem_of_getElem? (i := 9) rfl))) (mvT hZ (hw _ (List.mem_of_getElem? (i := 6) rfl))) (mvT hZ (hw _ (List.mem_of_getElem? (i := 10) rfl))) (by decide) (backOf (W := 0) (rm_fcr l Z a0 hw [] W p1 u1 h0 n0 O0 x1) hZ (hw _ (List.mem_of_getElem? (i := 10) rfl)) (hw _ (List.mem_of_getElem? (i := 6) rfl)) (by decide) (by decide)) (g := (mkF m 20 #[.val (.int p1), .val (.int p2), .val (.int pn), .val (.ref ue), .unset, .unset, .unset] [(.int p1)])) rfl (by rw [hml]; rfl) (argsL := [(.int p1)]) (rest := []) (lenOf pd_5 rfl) rfl (by show 2 * 0 + _ ≤ _; exact Nat.le_of_eq rfl) (hb hby at_20) (fun _ _ => ⟨rfl, e1, (by decide : 0 + 1 ≤ _), (by decide : 0 + 1 ≤ _)⟩)
  dsimp only [Pt.U, Pt.locs, Pt.cells, Pt.slots] at X2 l2 y2 z2 st2 hQ2
  subst l2 y2 z2
  obtain ⟨N2q, hP2⟩ := hQ2
  have N2 := Fr.app N1 N2q
  obtain ⟨b2_bb, rfl, Kp2, g_b2_bb, si_b2_bb, fp2_0, fp2_1⟩ := hP2
  have O2 := O0.keep Kp2 all0
  obtain ⟨_, _, ⟨T3, L3, k3, n3⟩, -, X3, ⟨Lc3, hQ3, l3, y3, z3⟩, st3⟩ := Jvm.LawKit.callS X2 hx (y := (⟨"com/example/usher/usher/wire/ErrorCode", "forCode", "(I)Ljava/util/Optional;"⟩ : MethodName)) hown (mvT hZ (hw _ (List.mem_of_getElem? (i := 8) rfl))) (mvT hZ (hw _ (List.mem_of_getElem? (i := 9) rfl))) (mvT hZ (hw _ (List.mem_of_getElem? (i := 6) rfl))) (mvT hZ (hw _ (List.mem_of_getElem? (i := 10) rfl))) (by decide) (backOf (W := 0) (rm_fcr l Z a0 hw [] W pn u2 T2.heap n0 O2 x2) hZ (hw _ (List.mem_of_getElem? (i := 10) rfl)) (hw _ (List.mem_of_getElem? (i := 6) rfl)) (by decide) (by decide)) (g := (mkF m 26 #[.val (.int p1), .val (.int p2), .val (.int pn), .val (.ref ue), .val (.ref b2_bb), .unset, .unset] [(.int pn)])) rfl (by rw [hml]; rfl) (argsL := [(.int pn)]) (rest := []) (lenOf pd_5 rfl) rfl (by show 2 * 0 + _ ≤ _; exact Nat.le_of_eq rfl) (hb hby at_26) (fun _ _ => ⟨rfl, rfl, (by decide : 1 + 1 ≤ _), (by decide : 1 + 1 ≤ _)⟩)
  dsimp only [Pt.U, Pt.locs, Pt.cells, Pt.slots] at X3 l3 y3 z3 st3 hQ3
  subst l3 y3 z3
  obtain ⟨N3q, hP3⟩ := hQ3
  have N3 := Fr.app N2 N3q
  obtain ⟨b3_bb, rfl, Kp3, g_b3_bb, si_b3_bb, fp3_0, fp3_1⟩ := hP3
  have f3_0 : Exa Z T3.heap b2_bb "java/util/Optional" := (fp2_0).keep Kp3
  have f3_1 : Fld Z T3.heap b2_bb "java/util/Optional" "value" "Ljava/lang/Object;" (.ref u1) := (fp2_1).keep Kp3 nin0
  have O3 := O2.keep Kp3 all0
  obtain ⟨cq4, kq4, q4a, q4b, q4c⟩ := isOf hZ rfl (ho0.ext O3.2)
  obtain ⟨_, _, ⟨T4, L4, k4, n4⟩, -, X4, ⟨Lc4, hQ4, l4, y4, z4⟩, st4⟩ := X3.virtualBack hx (y := (⟨"com/example/usher/usher/wire/ErrorCode", "code", "()I"⟩ : MethodName)) (z := (⟨"com/example/usher/usher/wire/ErrorCode", "code", "()I"⟩ : MethodName)) hown (mvT hZ (hw _ (List.mem_of_getElem? (i := 35) rfl))) (mvT hZ (hw _ (List.mem_of_getElem? (i := 36) rfl))) (notFace_of_selects (args := #[]) (mvT hZ (hw _ (List.mem_of_getElem? (i := 38) rfl)))) (mvT hZ (hw _ (List.mem_of_getElem? (i := 38) rfl))) (mvT hZ (hw _ (List.mem_of_getElem? (i := 37) rfl))) (by decide) (backOf (W := 0) (rm_cod l Z a0 hw [] W ue ce T3.heap n0 O3 (ho1.ext O3.2)) hZ (hw _ (List.mem_of_getElem? (i := 39) rfl)) (hw _ (List.mem_of_getElem? (i := 6) rfl)) (by decide) (by decide)) q4a q4c (g := (mkF m 32 #[.val (.int p1), .val (.int p2), .val (.int pn), .val (.ref ue), .val (.ref b2_bb), .val (.ref b3_bb), .unset] [(.ref ue)])) rfl (by rw [hml]; rfl) (Steps.refl _) (argsL := []) (rest := []) (lenOf pd_6 rfl) rfl (by show 2 * 0 + _ ≤ _; exact Nat.le_of_eq rfl) (hb hby at_32) (fun _ _ => ⟨rfl, rfl, (by decide : 2 + 0 ≤ _), (by decide : 2 + 0 ≤ _)⟩)
  dsimp only [Pt.U, Pt.locs, Pt.cells, Pt.slots] at X4 l4 y4 z4 st4 hQ4
  subst l4 y4 z4
  obtain ⟨rfl, N4q, e4⟩ := hQ4
  have N4 := Fr.app N3 N4q
  obtain ⟨_, _, ⟨T5, L5, k5, n5⟩, -, X5, ⟨Lc5, hQ5, l5, y5, z5⟩, st5⟩ := Jvm.LawKit.callS X4 hx (y := (⟨"com/example/usher/usher/wire/ErrorCode", "forCode", "(I)Ljava/util/Optional;"⟩ : MethodName)) hown (mvT hZ (hw _ (List.mem_of_getElem? (i := 8) rfl))) (mvT hZ (hw _ (List.mem_of_getElem? (i := 9) rfl))) (mvT hZ (hw _ (List.mem_of_getElem? (i := 6) rfl))) (mvT hZ (hw _ (List.mem_of_getElem? (i := 10) rfl))) (by decide) (backOf (W := 0) (rm_fcr l Z a0 hw [] W ce ue T3.heap n0 O3 x3) hZ (hw _ (List.mem_of_getElem? (i := 10) rfl)) (hw _ (List.mem_of_getElem? (i := 6) rfl)) (by decide) (by decide)) (g := (mkF m 35 #[.val (.int p1), .val (.int p2), .val (.int pn), .val (.ref ue), .val (.ref b2_bb), .val (.ref b3_bb), .unset] [(.int ce)])) rfl (by rw [hml]; rfl) (argsL := [(.int ce)]) (rest := []) (lenOf pd_5 rfl) rfl (by show 2 * 0 + _ ≤ _; exact Nat.le_of_eq rfl) (hb hby at_35) (fun _ _ => ⟨rfl, e4, (by decide : 2 + 1 ≤ _), (by decide : 2 + 1 ≤ _)⟩)
  dsimp only [Pt.U, Pt.locs, Pt.cells, Pt.slots] at X5 l5 y5 z5 st5 hQ5
  subst l5 y5 z5
  obtain ⟨N5q, hP5⟩ := hQ5
  have N5 := Fr.app N4 N5q
  obtain ⟨b5_bb, rfl, Kp5, g_b5_bb, si_b5_bb, fp5_0, fp5_1⟩ := hP5
  have f5_0 : Exa Z T5.heap b2_bb "java/util/Optional" := (f3_0).keep Kp5
  have f5_1 : Fld Z T5.heap b2_bb "java/util/Optional" "value" "Ljava/lang/Object;" (.ref u1) := (f3_1).keep Kp5 nin0
  have f5_2 : Exa Z T5.heap b3_bb "java/util/Optional" := (fp3_0).keep Kp5
  have f5_3 : Fld Z T5.heap b3_bb "java/util/Optional" "value" "Ljava/lang/Object;" (.ref u2) := (fp3_1).keep Kp5 nin0
  have O5 := O3.keep Kp5 all0
  obtain ⟨_, _, ⟨T6, L6, k6, n6⟩, -, X6, ⟨Lc6, hQ6, l6, y6, z6⟩, st6⟩ := Jvm.LawKit.callS X5 hx (y := (⟨"com/example/usher/usher/wire/ErrorCodeForCodePinLaw", "expected", "(I)Lcom/example/usher/usher/wire/ErrorCode;"⟩ : MethodName)) hown (mvT hZ (hw _ (List.mem_of_getElem? (i := 42) rfl))) (mvT hZ (hw _ (List.mem_of_getElem? (i := 43) rfl))) (mvT hZ (hw _ (List.mem_of_getElem? (i := 3) rfl))) (mvT hZ (hw _ (List.mem_of_getElem? (i := 44) rfl))) (by decide) (backOf (W := 1) (rm_exr l Z a0 hw [] W p1 u1 T5.heap n0 O5 x1) hZ (hw _ (List.mem_of_getElem? (i := 44) rfl)) (hw _ (List.mem_of_getElem? (i := 3) rfl)) (by decide) (by decide)) (g := (mkF m 43 #[.val (.int p1), .val (.int p2), .val (.int pn), .val (.ref ue), .val (.ref b2_bb), .val (.ref b3_bb), .val (.ref b5_bb)] [(.int p1), (.ref b2_bb)])) rfl (by rw [hml]; rfl) (argsL := [(.int p1)]) (rest := [(.ref b2_bb)]) (lenOf pd_4 rfl) rfl (by show 2 * 0 + _ ≤ _; exact Nat.le_of_eq rfl) (hb hby at_43) (fun _ _ => ⟨rfl, rfl, (by decide : 3 + 0 ≤ _), (by decide : 3 + 0 ≤ _)⟩)
  dsimp only [Pt.U, Pt.locs, Pt.cells, Pt.slots] at X6 l6 y6 z6 st6 hQ6
  subst l6 y6 z6
  obtain ⟨rfl, N6q, e6⟩ := hQ6
  have N6 := Fr.app N5 N6q
  obtain ⟨_, _, ⟨T7, L7, k7, n7⟩, -, X7, ⟨Lc7, hQ7, l7, y7, z7⟩, st7⟩ := Jvm.LawKit.callS X6 hx (y := (⟨"com/example/usher/usher/wire/ErrorCodeForCodePinLaw", "same", "(Ljava/util/Optional;Lcom/example/usher/usher/wire/ErrorCode;)Z"⟩ : MethodName)) hown (mvT hZ (hw _ (List.mem_of_getElem? (i := 46) rfl))) (mvT hZ (hw _ (List.mem_of_getElem? (i := 47) rfl))) (mvT hZ (hw _ (List.mem_of_getElem? (i := 3) rfl))) (mvT hZ (hw _ (List.mem_of_getElem? (i := 48) rfl))) (by decide) (backOf (W := 0) (rm_sar l Z a0 hw [] W b2_bb u1 T5.heap n0 O5 f5_0 f5_1) hZ (hw _ (List.mem_of_getElem? (i := 48) rfl)) (hw _ (List.mem_of_getElem? (i := 3) rfl)) (by decide) (by decide)) (g := (mkF m 46 #[.val (.int p1), .val (.int p2), .val (.int pn), .val (.ref ue), .val (.ref b2_bb), .val (.ref b3_bb), .val (.ref b5_bb)] [(.ref u1), (.ref b2_bb)])) rfl (by rw [hml]; rfl) (argsL := [(.ref b2_bb), (.ref u1)]) (rest := []) (lenOf pd_7 rfl) rfl (by show 2 * 0 + _ ≤ _; exact Nat.le_of_eq rfl) (hb hby at_46) (fun _ _ => ⟨rfl, e6, (by decide : 3 + 0 ≤ _), (by decide : 3 + 0 ≤ _)⟩)
  dsimp only [Pt.U, Pt.locs, Pt.cells, Pt.slots] at X7 l7 y7 z7 st7 hQ7
  subst l7 y7 z7
  obtain ⟨rfl, N7q, e7⟩ := hQ7
  have N7 := Fr.app N6 N7q
  obtain ⟨_, _, ⟨T8, L8, k8, n8⟩, -, X8, ⟨Lc8, hQ8, l8, y8, z8⟩, st8⟩ := Jvm.LawKit.callS X7 hx (y := (⟨"com/example/usher/usher/wire/ErrorCodeForCodePinLaw", "expected", "(I)Lcom/example/usher/usher/wire/ErrorCode;"⟩ : MethodName)) hown (mvT hZ (hw _ (List.mem_of_getElem? (i := 42) rfl))) (mvT hZ (hw _ (List.mem_of_getElem? (i := 43) rfl))) (mvT hZ (hw _ (List.mem_of_getElem? (i := 3) rfl))) (mvT hZ (hw _ (List.mem_of_getElem? (i := 44) rfl))) (by decide) (backOf (W := 1) (rm_exr l Z a0 hw [] W pn u2 T5.heap n0 O5 x2) hZ (hw _ (List.mem_of_getElem? (i := 44) rfl)) (hw _ (List.mem_of_getElem? (i := 3) rfl)) (by decide) (by decide)) (g := (mkF m 55 #[.val (.int p1), .val (.int p2), .val (.int pn), .val (.ref ue), .val (.ref b2_bb), .val (.ref b3_bb), .val (.ref b5_bb)] [(.int pn), (.ref b3_bb)])) rfl (by rw [hml]; rfl) (argsL := [(.int pn)]) (rest := [(.ref b3_bb)]) (lenOf pd_4 rfl) rfl (by show 2 * 0 + _ ≤ _; exact Nat.le_of_eq rfl) (hb hby at_55) (fun _ _ => ⟨rfl, e7, (by decide : 3 + 0 ≤ _), (by decide : 3 + 0 ≤ _)⟩)
  dsimp only [Pt.U, Pt.locs, Pt.cells, Pt.slots] at X8 l8 y8 z8 st8 hQ8
  subst l8 y8 z8
  obtain ⟨rfl, N8q, e8⟩ := hQ8
  have N8 := Fr.app N7 N8q
  obtain ⟨_, _, ⟨T9, L9, k9, n9⟩, -, X9, ⟨Lc9, hQ9, l9, y9, z9⟩, st9⟩ := Jvm.LawKit.callS X8 hx (y := (⟨"com/example/usher/usher/wire/ErrorCodeForCodePinLaw", "same", "(Ljava/util/Optional;Lcom/example/usher/usher/wire/ErrorCode;)Z"⟩ : MethodName)) hown (mvT hZ (hw _ (List.mem_of_getElem? (i := 46) rfl))) (mvT hZ (hw _ (List.mem_of_getElem? (i := 47) rfl))) (mvT hZ (hw _ (List.mem_of_getElem? (i := 3) rfl))) (mvT hZ (hw _ (List.mem_of_getElem? (i := 48) rfl))) (by decide) (backOf (W := 0) (rm_sar l Z a0 hw [] W b3_bb u2 T5.heap n0 O5 f5_2 f5_3) hZ (hw _ (List.mem_of_getElem? (i := 48) rfl)) (hw _ (List.mem_of_getElem? (i := 3) rfl)) (by decide) (by decide)) (g := (mkF m 58 #[.val (.int p1), .val (.int p2), .val (.int pn), .val (.ref ue), .val (.ref b2_bb), .val (.ref b3_bb), .val (.ref b5_bb)] [(.ref u2), (.ref b3_bb)])) rfl (by rw [hml]; rfl) (argsL := [(.ref b3_bb), (.ref u2)]) (rest := []) (lenOf pd_7 rfl) rfl (by show 2 * 0 + _ ≤ _; exact Nat.le_of_eq rfl) (hb hby at_58) (fun _ _ => ⟨rfl, e8, (by decide : 3 + 0 ≤ _), (by decide : 3 + 0 ≤ _)⟩)
  dsimp only [Pt.U, Pt.locs, Pt.cells, Pt.slots] at X9 l9 y9 z9 st9 hQ9
  subst l9 y9 z9
  obtain ⟨rfl, N9q, e9⟩ := hQ9
  have N9 := Fr.app N8 N9q
  obtain ⟨_, _, ⟨T10, L10, k10, n10⟩, -, X10, ⟨Lc10, hQ10, l10, y10, z10⟩, st10⟩ := Jvm.LawKit.callS X9 hx (y := (⟨"com/example/usher/usher/wire/ErrorCodeForCodePinLaw", "same", "(Ljava/util/Optional;Lcom/example/usher/usher/wire/ErrorCode;)Z"⟩ : MethodName)) hown (mvT hZ (hw _ (List.mem_of_getElem? (i := 46) rfl))) (mvT hZ (hw _ (List.mem_of_getElem? (i := 47) rfl))) (mvT hZ (hw _ (List.mem_of_getElem? (i := 3) rfl))) (mvT hZ (hw _ (List.mem_of_getElem? (i := 48) rfl))) (by decide) (backOf (W := 0) (rm_sar l Z a0 hw [] W b5_bb ue T5.heap n0 O5 fp5_0 fp5_1) hZ (hw _ (List.mem_of_getElem? (i := 48) rfl)) (hw _ (List.mem_of_getElem? (i := 3) rfl)) (by decide) (by decide)) (g := (mkF m 67 #[.val (.int p1), .val (.int p2), .val (.int pn), .val (.ref ue), .val (.ref b2_bb), .val (.ref b3_bb), .val (.ref b5_bb)] [(.ref ue), (.ref b5_bb)])) rfl (by rw [hml]; rfl) (argsL := [(.ref b5_bb), (.ref ue)]) (rest := []) (lenOf pd_7 rfl) rfl (by show 2 * 0 + _ ≤ _; exact Nat.le_of_eq rfl) (hb hby at_67) (fun _ _ => ⟨rfl, e9, (by decide : 3 + 0 ≤ _), (by decide : 3 + 0 ≤ _)⟩)
  dsimp only [Pt.U, Pt.locs, Pt.cells, Pt.slots] at X10 l10 y10 z10 st10 hQ10
  subst l10 y10 z10
  obtain ⟨rfl, N10q, e10⟩ := hQ10
  have N10 := Fr.app N9 N10q
  obtain ⟨fs, hr, hrun, hended, hW, hsame⟩ := X10.leave (v := some (.int (1 : Int32))) (fun h => by rw [Bd.returns] at h; cases h)
  refine ⟨_, _, pre0 _ ?_, hrun, hended, _, _, rfl, ?_, ⟨_, rfl⟩, hW, hsame.mono (by decide) (by decide)⟩
  · show Steps p.tables e below (s₁.setTop (mkF m 0 #[.val (.int p1), .val (.int p2), .unset, .unset, .unset, .unset, .unset] [])) _
    refine XS.iloadN X0.here hx rfl (hb hby at_0) rfl ?_
    show Steps p.tables e below (s₁.setTop (mkF m 1 #[.val (.int p1), .val (.int p2), .unset, .unset, .unset, .unset, .unset] [(.int p2)])) _
    refine XS.iconst X0.here hx rfl (hb hby at_1) ?_
    show Steps p.tables e below (s₁.setTop (mkF m 2 #[.val (.int p1), .val (.int p2), .unset, .unset, .unset, .unset, .unset] [(.int (4 : Int32)), (.int p2)])) _
    refine XS.iushr X0.here hx rfl (hb hby at_2) rfl ?_
    show Steps p.tables e below (s₁.setTop (mkF m 3 #[.val (.int p1), .val (.int p2), .unset, .unset, .unset, .unset, .unset] [(.int ((p2.toUInt32 >>> ((4 : Int32) &&& 31).toUInt32).toInt32))])) _
    refine XS.bipush X0.here hx rfl (hb hby at_3) ?_
    show Steps p.tables e below (s₁.setTop (mkF m 5 #[.val (.int p1), .val (.int p2), .unset, .unset, .unset, .unset, .unset] [(.int (127 : Int32)), (.int ((p2.toUInt32 >>> ((4 : Int32) &&& 31).toUInt32).toInt32))])) _
    refine XS.iand X0.here hx rfl (hb hby at_5) rfl ?_
    show Steps p.tables e below (s₁.setTop (mkF m 6 #[.val (.int p1), .val (.int p2), .unset, .unset, .unset, .unset, .unset] [(.int (((p2.toUInt32 >>> ((4 : Int32) &&& 31).toUInt32).toInt32) &&& (127 : Int32)))])) _
    refine XS.ineg X0.here hx rfl (hb hby at_6) rfl ?_
    show Steps p.tables e below (s₁.setTop (mkF m 7 #[.val (.int p1), .val (.int p2), .unset, .unset, .unset, .unset, .unset] [(.int (-(((p2.toUInt32 >>> ((4 : Int32) &&& 31).toUInt32).toInt32) &&& (127 : Int32))))])) _
    rw [hnr]
    show Steps p.tables e below (s₁.setTop (mkF m 7 #[.val (.int p1), .val (.int p2), .unset, .unset, .unset, .unset, .unset] [(.int pn)])) _
    refine XS.istoreN X0.here hx rfl (hb hby at_7) rfl (l' := #[.val (.int p1), .val (.int p2), .val (.int pn), .unset, .unset, .unset, .unset]) rfl ?_
    show Steps p.tables e below (s₁.setTop (mkF m 8 #[.val (.int p1), .val (.int p2), .val (.int pn), .unset, .unset, .unset, .unset] [])) _
    refine XS.iloadN X0.here hx rfl (hb hby at_8) rfl ?_
    show Steps p.tables e below (s₁.setTop (mkF m 9 #[.val (.int p1), .val (.int p2), .val (.int pn), .unset, .unset, .unset, .unset] [(.int p2)])) _
    refine X0.ldcInt hx hown (mvT hZ (hw _ (List.mem_of_getElem? (i := 0) rfl))) (g := (mkF m 9 #[.val (.int p1), .val (.int p2), .val (.int pn), .unset, .unset, .unset, .unset] [(.int p2)])) rfl (hb hby at_9) _ ?_
    show Steps p.tables e below (s₁.setTop (mkF m 11 #[.val (.int p1), .val (.int p2), .val (.int pn), .unset, .unset, .unset, .unset] [(.int (2147483647 : Int32)), (.int p2)])) _
    refine XS.iand X0.here hx rfl (hb hby at_11) rfl ?_
    show Steps p.tables e below (s₁.setTop (mkF m 12 #[.val (.int p1), .val (.int p2), .val (.int pn), .unset, .unset, .unset, .unset] [(.int (p2 &&& (2147483647 : Int32)))])) _
    refine XS.bipush X0.here hx rfl (hb hby at_12) ?_
    show Steps p.tables e below (s₁.setTop (mkF m 14 #[.val (.int p1), .val (.int p2), .val (.int pn), .unset, .unset, .unset, .unset] [(.int (11 : Int32)), (.int (p2 &&& (2147483647 : Int32)))])) _
    refine iremM X0 hx rfl (hb hby at_14) rfl (by decide) ?_
    show Steps p.tables e below (s₁.setTop (mkF m 15 #[.val (.int p1), .val (.int p2), .val (.int pn), .unset, .unset, .unset, .unset] [(.int ((p2 &&& (2147483647 : Int32)) % (11 : Int32)))])) _
    rw [hpi]
    show Steps p.tables e below (s₁.setTop (mkF m 15 #[.val (.int p1), .val (.int p2), .val (.int pn), .unset, .unset, .unset, .unset] [(.int pi)])) _
    refine st1 _ ?_
    show Steps p.tables e below (T1.setTop (mkF m 18 #[.val (.int p1), .val (.int p2), .val (.int pn), .unset, .unset, .unset, .unset] [(.ref ue)])) _
    refine XS.astoreN X1.here hx rfl (hb hby at_18) rfl rfl (l' := #[.val (.int p1), .val (.int p2), .val (.int pn), .val (.ref ue), .unset, .unset, .unset]) rfl ?_
    show Steps p.tables e below (T1.setTop (mkF m 19 #[.val (.int p1), .val (.int p2), .val (.int pn), .val (.ref ue), .unset, .unset, .unset] [])) _
    refine XS.iloadN X1.here hx rfl (hb hby at_19) rfl ?_
    show Steps p.tables e below (T1.setTop (mkF m 20 #[.val (.int p1), .val (.int p2), .val (.int pn), .val (.ref ue), .unset, .unset, .unset] [(.int p1)])) _
    refine st2 _ ?_
    show Steps p.tables e below (T2.setTop (mkF m 23 #[.val (.int p1), .val (.int p2), .val (.int pn), .val (.ref ue), .unset, .unset, .unset] [(.ref b2_bb)])) _
    refine XS.astore X2.here hx rfl (hb hby at_23) rfl rfl (l' := #[.val (.int p1), .val (.int p2), .val (.int pn), .val (.ref ue), .val (.ref b2_bb), .unset, .unset]) rfl ?_
    show Steps p.tables e below (T2.setTop (mkF m 25 #[.val (.int p1), .val (.int p2), .val (.int pn), .val (.ref ue), .val (.ref b2_bb), .unset, .unset] [])) _
    refine XS.iloadN X2.here hx rfl (hb hby at_25) rfl ?_
    show Steps p.tables e below (T2.setTop (mkF m 26 #[.val (.int p1), .val (.int p2), .val (.int pn), .val (.ref ue), .val (.ref b2_bb), .unset, .unset] [(.int pn)])) _
    refine st3 _ ?_
    show Steps p.tables e below (T3.setTop (mkF m 29 #[.val (.int p1), .val (.int p2), .val (.int pn), .val (.ref ue), .val (.ref b2_bb), .unset, .unset] [(.ref b3_bb)])) _
    refine XS.astore X3.here hx rfl (hb hby at_29) rfl rfl (l' := #[.val (.int p1), .val (.int p2), .val (.int pn), .val (.ref ue), .val (.ref b2_bb), .val (.ref b3_bb), .unset]) rfl ?_
    show Steps p.tables e below (T3.setTop (mkF m 31 #[.val (.int p1), .val (.int p2), .val (.int pn), .val (.ref ue), .val (.ref b2_bb), .val (.ref b3_bb), .unset] [])) _
    refine XS.aloadN X3.here hx rfl (hb hby at_31) rfl rfl ?_
    show Steps p.tables e below (T3.setTop (mkF m 32 #[.val (.int p1), .val (.int p2), .val (.int pn), .val (.ref ue), .val (.ref b2_bb), .val (.ref b3_bb), .unset] [(.ref ue)])) _
    refine st4.trans ?_
    show Steps p.tables e below (T4.setTop (mkF m 35 #[.val (.int p1), .val (.int p2), .val (.int pn), .val (.ref ue), .val (.ref b2_bb), .val (.ref b3_bb), .unset] [(.int ce)])) _
    refine st5 _ ?_
    show Steps p.tables e below (T5.setTop (mkF m 38 #[.val (.int p1), .val (.int p2), .val (.int pn), .val (.ref ue), .val (.ref b2_bb), .val (.ref b3_bb), .unset] [(.ref b5_bb)])) _
    refine XS.astore X5.here hx rfl (hb hby at_38) rfl rfl (l' := #[.val (.int p1), .val (.int p2), .val (.int pn), .val (.ref ue), .val (.ref b2_bb), .val (.ref b3_bb), .val (.ref b5_bb)]) rfl ?_
    show Steps p.tables e below (T5.setTop (mkF m 40 #[.val (.int p1), .val (.int p2), .val (.int pn), .val (.ref ue), .val (.ref b2_bb), .val (.ref b3_bb), .val (.ref b5_bb)] [])) _
    refine XS.aload X5.here hx rfl (hb hby at_40) rfl rfl ?_
    show Steps p.tables e below (T5.setTop (mkF m 42 #[.val (.int p1), .val (.int p2), .val (.int pn), .val (.ref ue), .val (.ref b2_bb), .val (.ref b3_bb), .val (.ref b5_bb)] [(.ref b2_bb)])) _
    refine XS.iloadN X5.here hx rfl (hb hby at_42) rfl ?_
    show Steps p.tables e below (T5.setTop (mkF m 43 #[.val (.int p1), .val (.int p2), .val (.int pn), .val (.ref ue), .val (.ref b2_bb), .val (.ref b3_bb), .val (.ref b5_bb)] [(.int p1), (.ref b2_bb)])) _
    refine st6 _ ?_
    show Steps p.tables e below (T6.setTop (mkF m 46 #[.val (.int p1), .val (.int p2), .val (.int pn), .val (.ref ue), .val (.ref b2_bb), .val (.ref b3_bb), .val (.ref b5_bb)] [(.ref u1), (.ref b2_bb)])) _
    refine st7 _ ?_
    show Steps p.tables e below (T7.setTop (mkF m 49 #[.val (.int p1), .val (.int p2), .val (.int pn), .val (.ref ue), .val (.ref b2_bb), .val (.ref b3_bb), .val (.ref b5_bb)] [(.int (1 : Int32))])) _
    refine XS.ifNo X7.here hx rfl (hb hby at_49) rfl ((if0 _ _).trans (feq ((by decide) : ¬ ((1 : Int32) = (0 : Int32)))).1) ?_
    show Steps p.tables e below (T7.setTop (mkF m 52 #[.val (.int p1), .val (.int p2), .val (.int pn), .val (.ref ue), .val (.ref b2_bb), .val (.ref b3_bb), .val (.ref b5_bb)] [])) _
    refine XS.aload X7.here hx rfl (hb hby at_52) rfl rfl ?_
    show Steps p.tables e below (T7.setTop (mkF m 54 #[.val (.int p1), .val (.int p2), .val (.int pn), .val (.ref ue), .val (.ref b2_bb), .val (.ref b3_bb), .val (.ref b5_bb)] [(.ref b3_bb)])) _
    refine XS.iloadN X7.here hx rfl (hb hby at_54) rfl ?_
    show Steps p.tables e below (T7.setTop (mkF m 55 #[.val (.int p1), .val (.int p2), .val (.int pn), .val (.ref ue), .val (.ref b2_bb), .val (.ref b3_bb), .val (.ref b5_bb)] [(.int pn), (.ref b3_bb)])) _
    refine st8 _ ?_
    show Steps p.tables e below (T8.setTop (mkF m 58 #[.val (.int p1), .val (.int p2), .val (.int pn), .val (.ref ue), .val (.ref b2_bb), .val (.ref b3_bb), .val (.ref b5_bb)] [(.ref u2), (.ref b3_bb)])) _
    refine st9 _ ?_
    show Steps p.tables e below (T9.setTop (mkF m 61 #[.val (.int p1), .val (.int p2), .val (.int pn), .val (.ref ue), .val (.ref b2_bb), .val (.ref b3_bb), .val (.ref b5_bb)] [(.int (1 : Int32))])) _
    refine XS.ifNo X9.here hx rfl (hb hby at_61) rfl ((if0 _ _).trans (feq ((by decide) : ¬ ((1 : Int32) = (0 : Int32)))).1) ?_
    show Steps p.tables e below (T9.setTop (mkF m 64 #[.val (.int p1), .val (.int p2), .val (.int pn), .val (.ref ue), .val (.ref b2_bb), .val (.ref b3_bb), .val (.ref b5_bb)] [])) _
    refine XS.aload X9.here hx rfl (hb hby at_64) rfl rfl ?_
    show Steps p.tables e below (T9.setTop (mkF m 66 #[.val (.int p1), .val (.int p2), .val (.int pn), .val (.ref ue), .val (.ref b2_bb), .val (.ref b3_bb), .val (.ref b5_bb)] [(.ref b5_bb)])) _
    refine XS.aloadN X9.here hx rfl (hb hby at_66) rfl rfl ?_
    show Steps p.tables e below (T9.setTop (mkF m 67 #[.val (.int p1), .val (.int p2), .val (.int pn), .val (.ref ue), .val (.ref b2_bb), .val (.ref b3_bb), .val (.ref b5_bb)] [(.ref ue), (.ref b5_bb)])) _
    refine st10 _ ?_
    show Steps p.tables e below (T10.setTop (mkF m 70 #[.val (.int p1), .val (.int p2), .val (.int pn), .val (.ref ue), .val (.ref b2_bb), .val (.ref b3_bb), .val (.ref b5_bb)] [(.int (1 : Int32))])) _
    refine XS.ifNo X10.here hx rfl (hb hby at_70) rfl ((if0 _ _).trans (feq ((by decide) : ¬ ((1 : Int32) = (0 : Int32)))).1) ?_
    show Steps p.tables e below (T10.setTop (mkF m 73 #[.val (.int p1), .val (.int p2), .val (.int pn), .val (.ref ue), .val (.ref b2_bb), .val (.ref b3_bb), .val (.ref b5_bb)] [])) _
    refine XS.iconst X10.here hx rfl (hb hby at_73) ?_
    show Steps p.tables e below (T10.setTop (mkF m 74 #[.val (.int p1), .val (.int p2), .val (.int pn), .val (.ref ue), .val (.ref b2_bb), .val (.ref b3_bb), .val (.ref b5_bb)] [(.int (1 : Int32))])) _
    refine XS.goto X10.here hx rfl (pc0 := 74) (pc' := 78) rfl (hb hby at_74) (by decide) (by decide) ?_
    show Steps p.tables e below (T10.setTop (mkF m 78 #[.val (.int p1), .val (.int p2), .val (.int pn), .val (.ref ue), .val (.ref b2_bb), .val (.ref b3_bb), .val (.ref b5_bb)] [(.int (1 : Int32))])) _
    exact retN X10 hx (t := .boolean) Bd.returns (by simp) (hb hby at_78) hr
  · show Q0 n0 _ T10.heap _
    rw [e10]
    exact ⟨rfl, N10⟩
theorem own_pk {Z : State} {w_n5 : Addr} {w_n10 : Addr} {w_OK : Addr} {w_n1 : Addr} {w_n2 : Addr} {w_n4 : Addr} {w_n9 : Addr} {w_n6 : Addr} {w_n0 : Addr} {w_n7 : Addr} {w_n8 : Addr} {w_n3 : Addr} {w_n11 : Addr} {k_n10 : ClassId} (W : Wd Z w_n5 w_n10 w_OK w_n1 w_n2 w_n4 w_n9 w_n6 w_n0 w_n7 w_n8 w_n3 w_n11 k_n10) (p1 : Int32) (hp : p1 = (0 : Int32) ∨ p1 = (1 : Int32) ∨ p1 = (2 : Int32) ∨ p1 = (3 : Int32) ∨ p1 = (4 : Int32) ∨ p1 = (5 : Int32) ∨ p1 = (6 : Int32) ∨ p1 = (7 : Int32) ∨ p1 = (8 : Int32) ∨ p1 = (9 : Int32) ∨ p1 = (10 : Int32)) : ∃ (ue : Addr) (ce : Int32), pkC w_OK w_n1 w_n2 w_n5 w_n4 w_n9 w_n6 w_n0 w_n7 w_n8 w_n3 p1 = ue ∧ exC w_OK w_n1 w_n2 w_n5 w_n4 w_n9 w_n6 w_n0 w_n7 w_n8 w_n3 ce = .ref ue ∧ Exa Z Z.heap ue "com/example/usher/usher/wire/ErrorCode" ∧ Fld Z Z.heap ue "com/example/usher/usher/wire/ErrorCode" "code" "I" (.int ce) := by
  have W' := W; obtain ⟨S_n5, E_n5, S_n10, S_OK, E_OK, S_n1, E_n1, S_n2, E_n2, S_n4, E_n4, S_n9, E_n9, S_n6, E_n6, S_n0, E_n0, S_n7, E_n7, S_n8, E_n8, S_n3, E_n3, S_n11, E_n11, F_OK_code, F_n5_code, F_n1_code, F_n2_code, F_n4_code, F_n9_code, F_n6_code, F_n0_code, F_n7_code, F_n8_code, F_n3_code, F_n11_value, V_n10⟩ := W'
  rcases hp with rfl | rfl | rfl | rfl | rfl | rfl | rfl | rfl | rfl | rfl | rfl
  · exact ⟨w_OK, (0 : Int32), by simp [pkC], by simp [exC], E_OK, F_OK_code⟩
  · exact ⟨w_n1, (-2 : Int32), by simp [pkC], by simp [exC], E_n1, F_n1_code⟩
  · exact ⟨w_n2, (-5 : Int32), by simp [pkC], by simp [exC], E_n2, F_n2_code⟩
  · exact ⟨w_n5, (-6 : Int32), by simp [pkC], by simp [exC], E_n5, F_n5_code⟩
  · exact ⟨w_n4, (-8 : Int32), by simp [pkC], by simp [exC], E_n4, F_n4_code⟩
  · exact ⟨w_n9, (-101 : Int32), by simp [pkC], by simp [exC], E_n9, F_n9_code⟩
  · exact ⟨w_n6, (-103 : Int32), by simp [pkC], by simp [exC], E_n6, F_n6_code⟩
  · exact ⟨w_n0, (-108 : Int32), by simp [pkC], by simp [exC], E_n0, F_n0_code⟩
  · exact ⟨w_n7, (-110 : Int32), by simp [pkC], by simp [exC], E_n7, F_n7_code⟩
  · exact ⟨w_n8, (-111 : Int32), by simp [pkC], by simp [exC], E_n8, F_n8_code⟩
  · exact ⟨w_n3, (-112 : Int32), by simp [pkC], by simp [exC], E_n3, F_n3_code⟩
theorem rm0 (l : Launch) (Z : State) (a0 : Array Value) (hw : ∀ d ∈ tables_1, d.before a0 Z = true) (ws : List Jvm.Cond) {w_n5 : Addr} {w_n10 : Addr} {w_OK : Addr} {w_n1 : Addr} {w_n2 : Addr} {w_n4 : Addr} {w_n9 : Addr} {w_n6 : Addr} {w_n0 : Addr} {w_n7 : Addr} {w_n8 : Addr} {w_n3 : Addr} {w_n11 : Addr} {k_n10 : ClassId} (W : Wd Z w_n5 w_n10 w_OK w_n1 w_n2 w_n4 w_n9 w_n6 w_n0 w_n7 w_n8 w_n3 w_n11 k_n10) (p1 : Int32) (p2 : Int32) (h0 : Heap) (n0 : Nat) (O0 : Old Z n0 h0) :
    MetFree l x (head1 (Jvm.Cond.code x code maxLocals ret :: ws) room_1) (fun a U => a = #[(.int p1), (.int p2)] ∧ Z.Warmed39 U.vm ∧ U.heap = h0) (fun _ _ _ _ _ => True) (fun _ U o U' => ∃ v L, o = .returned v ∧ Q0 n0 v U'.heap L ∧ FrameEnd U o U' L room_1.cells room_1.slots) := by
  have e : (p2 &&& (2147483647 : Int32)).toInt = p2.toInt % (2 ^ 31 : Nat) := c_mask p2 2147483647 31 (by decide) (by decide)
  have r := (c_irem (p2 &&& (2147483647 : Int32)) (11 : Int32) 11 rfl).1 (by rw [e]; omega)
  have c : ((p2 &&& (2147483647 : Int32)) % (11 : Int32)) = (0 : Int32) ∨ ((p2 &&& (2147483647 : Int32)) % (11 : Int32)) = (1 : Int32) ∨ ((p2 &&& (2147483647 : Int32)) % (11 : Int32)) = (2 : Int32) ∨ ((p2 &&& (2147483647 : Int32)) % (11 : Int32)) = (3 : Int32) ∨ ((p2 &&& (2147483647 : Int32)) % (11 : Int32)) = (4 : Int32) ∨ ((p2 &&& (2147483647 : Int32)) % (11 : Int32)) = (5 : Int32) ∨ ((p2 &&& (2147483647 : Int32)) % (11 : Int32)) = (6 : Int32) ∨ ((p2 &&& (2147483647 : Int32)) % (11 : Int32)) = (7 : Int32) ∨ ((p2 &&& (2147483647 : Int32)) % (11 : Int32)) = (8 : Int32) ∨ ((p2 &&& (2147483647 : Int32)) % (11 : Int32)) = (9 : Int32) ∨ ((p2 &&& (2147483647 : Int32)) % (11 : Int32)) = (10 : Int32) := by
    simp only [← Int32.toInt_inj]
    have q0 : (0 : Int32).toInt = 0 := rfl
    have q1 : (1 : Int32).toInt = 1 := rfl
    have q2 : (2 : Int32).toInt = 2 := rfl
    have q3 : (3 : Int32).toInt = 3 := rfl
    have q4 : (4 : Int32).toInt = 4 := rfl
    have q5 : (5 : Int32).toInt = 5 := rfl
    have q6 : (6 : Int32).toInt = 6 := rfl
    have q7 : (7 : Int32).toInt = 7 := rfl
    have q8 : (8 : Int32).toInt = 8 := rfl
    have q9 : (9 : Int32).toInt = 9 := rfl
    have q10 : (10 : Int32).toInt = 10 := rfl
    omega
  obtain ⟨ue, ce, k1, k2, k3, k4⟩ := own_pk W _ c
  rcases exC_cases w_OK w_n1 w_n2 w_n5 w_n4 w_n9 w_n6 w_n0 w_n7 w_n8 w_n3 p1 with ⟨u1, x1⟩ | x1 <;> rcases exC_cases w_OK w_n1 w_n2 w_n5 w_n4 w_n9 w_n6 w_n0 w_n7 w_n8 w_n3 (-(((p2.toUInt32 >>> ((4 : Int32) &&& 31).toUInt32).toInt32) &&& (127 : Int32))) with ⟨u2, x2⟩ | x2
  · exact rm0_11 l Z a0 hw ws W p1 p2 _ _ ue ce u1 u2 h0 n0 O0 rfl rfl k1 k2 x1 x2 k3 k4
  · exact rm0_10 l Z a0 hw ws W p1 p2 _ _ ue ce u1 h0 n0 O0 rfl rfl k1 k2 x1 x2 k3 k4
  · exact rm0_01 l Z a0 hw ws W p1 p2 _ _ ue ce u2 h0 n0 O0 rfl rfl k1 k2 x1 x2 k3 k4
  · exact rm0_00 l Z a0 hw ws W p1 p2 _ _ ue ce h0 n0 O0 rfl rfl k1 k2 x1 x2 k3 k4
set_option maxRecDepth 65536 in
set_option maxHeartbeats 40000000 in
theorem comes_1 {Post : Tables → Env → Array Value → State → Outcome → State → Prop} (hpost : ∀ tb e args s v u, (limb_1_1.after args s (.returned v) u = true ∧ limb_1_2.after args s (.returned v) u = true ∧ True) → FrameEnd s (.returned v) u (Jvm.fieldLocs frame_1_writes args s ++ Jvm.arrayLocs frame_1_arrays args s ++ Jvm.staticLocs frame_1_statics s) 16 128 → Post tb e args s (.returned v) u) :
    ArmFor flags0 classFile x code maxLocals ret World_1 tables_1 room_1 Calls_1 rest_1 Pre_1 Post := by
  intro l hfl _ _ p e ha hc hk s m args below hf hA hF happ hP
  obtain ⟨hcalls, hrest, hpre⟩ := hP
  obtain ⟨-, -, -, hnamed, -, -, -, hat⟩ := (Spec.applies_iff hf).mp happ
  obtain ⟨hg, hn⟩ := and_e (Cond.before_iff.mp (show (Jvm.Cond.and given_1 narrow_1).before args s = true from hpre))
  obtain ⟨g0, r0⟩ := and_e hg
  obtain ⟨g1, r1⟩ := and_e r0
  have g2 := r1
  obtain ⟨w0, w1, rfl⟩ : ∃ w0 w1 : Value, args = #[w0, w1] := by
    have hs : args.size = 2 := by simpa [Cond.value, given_1] using g0
    obtain ⟨L⟩ := args
    match L, hs with
    | [w0, w1], _ => exact ⟨w0, w1, rfl⟩
  have hw := fun d (hd : d ∈ tables_1) => atoms_spec (ws := Jvm.Cond.code x code maxLocals ret :: tables_1) hat d (List.mem_cons_of_mem _ hd)
  have hfit : Fit s := fun {y c} hc i hi => by
    obtain ⟨ha, rfl⟩ := Array.getElem?_eq_some_iff.mp hc
    have q := List.all_eq_true.mp ((Array.all_eq_true_iff_forall_mem.mp hF) _ (Array.getElem_mem ha)) i (List.mem_range.mpr hi)
    simpa [Array.getElem?_eq_getElem hi] using q
  obtain ⟨hsets, hown0⟩ := atoms_of _ (rest_1_c_eq ▸ (show rest_1_c.before _ s = true from hrest))
  have hr0 := Cond.before_iff.mp hown0
  obtain ⟨i0, ei0⟩ := is_v g1
  obtain rfl : w0 = (.int i0) := Option.some.inj ei0
  obtain ⟨i1, ei1⟩ := is_v g2
  obtain rfl : w1 = (.int i1) := Option.some.inj ei1
  obtain ⟨w_n5, w_n10, w_OK, w_n1, w_n2, w_n4, w_n9, w_n6, w_n0, w_n7, w_n8, w_n3, w_n11, k_n10, W⟩ := wd_start hfit hw hsets hn
  obtain ⟨n, o, h1, h2, h3, _, L, rfl, ⟨rfl, N⟩, hq⟩ := rm0 l s _ hw tables_1 W i0 i1 s.heap s.heap.size (Old.start s) p e ha hc hk s m _ below hf ((Spec.applies_iff_loose hf).mp happ).1 ⟨rfl, State.Warmed39.refl s, rfl⟩ trivial
  refine ⟨n, _, h1, h2, h3, hpost _ _ _ _ _ _ ⟨Cond.after_iff.mpr rfl, Cond.after_iff.mpr (eq_i res_at (Term.int_eval (1)) rfl), trivial⟩ ⟨hq.1, hq.2.1, (hq.2.2.sift fun y hy => Or.inr (N y hy)).mono (by decide) (by decide)⟩⟩
theorem main_1_1 : Claimed_1_1 := comes_1 fun _ _ _ _ _ _ h hF => ⟨h.1, hF⟩
theorem main_1_2 : Claimed_1_2 := comes_1 fun _ _ _ _ _ _ h hF => ⟨h.2.1, hF⟩
end Jvm.Pilot.@@N@@
namespace Jvm.Pilot.@@N@@
open Jvm Jvm.ClassFile Sem Op Lib Jvm.Free Jvm.Stand Jvm.Pilot.@@N@@.Jvm.D
/-! MADE BY PROGRAM (witnessworld.py) out of the Statement's table words and the real class files: 15 classes; the members and pool entries that the words name. The judged class is class 1, her method 4. -/
namespace start1
open Jvm.ClassFile
def u (s : String) : CpInfo := .utf8 (stringToUtf16 s)
/-- a pool by its gaps: so many unusable entries, then the entry; so many at the end -/
def gap : Nat → List CpInfo → List CpInfo
  | 0, r => r
  | n + 1, r => .unusable :: gap n r
def poolList (es : List (Nat × CpInfo)) (last : Nat) : List CpInfo := es.foldr (fun e r => gap e.1 (e.2 :: r)) (gap last [])
def pool (es : List (Nat × CpInfo)) (last : Nat) : Array CpInfo := ⟨poolList es last⟩
def fileOf (pool : Array CpInfo) (this : Nat) (attrs : Array Attribute := #[]) (ms : Array MethodInfo := #[]) (fl : Nat := 33) (sup : Nat := 0) (ifs : Array Nat := #[]) (fds : Array FieldInfo := #[]) : ClassFile where
  minorVersion := 0
  majorVersion := 65
  constantPool := pool
  accessFlags := fl
  thisClass := this
  superClass := sup
  interfaces := ifs
  fields := fds
  methods := ms
  attributes := attrs
def plain (name : String) (sup : Option ClassId) : Class where
  name := name
  kind := .ordinary
  loader := none
  accessFlags := 33
  super := sup
  interfaces := #[]
  cf := none
  fields := #[]
  methods := #[]
  instanceTypes := #[]
  staticTypes := #[]
  resolved := #[]
  callSites := []
  init := .initialized
  statics := none
  mirror := none

def pool0 : Array CpInfo := pool [(5, u "<init>"), (0, u "()V"), (1, .class_ 10), (1, u "java/lang/Object")] 113

def k0c0 : Code := { maxStack := 0, maxLocals := 1, code := object_method_1_code, exceptionTable := #[], attributes := #[] }
def k0m0 : Method := { name := "<init>", desc := "()V", sig := { parameters := [], returnType := none }, accessFlags := 1, code := some k0c0 }
/-- java/lang/Object -/
def k0 : Class := { plain "java/lang/Object" none with
  accessFlags := 33
  interfaces := #[]
  cf := some (fileOf pool0 8 #[] #[{ accessFlags := 1, nameIndex := 5, descriptorIndex := 6, attributes := #[] }] 33 0 #[] #[])
  fields := #[]
  methods := #[k0m0]
  instanceTypes := #[]
  staticTypes := #[]
  resolved := Array.replicate 124 none
  statics := none }

def pool1 : Array CpInfo := pool [(2, .class_ 4), (1, u "java/lang/Object"), (0, u "<init>"), (0, u "()V"), (0, .fieldref 8 9), (0, .class_ 10), (0, .nameAndType 11 12), (0, u "com/example/usher/usher/wire/ErrorCode"), (0, u "OK"), (0, u "Lcom/example/usher/usher/wire/ErrorCode;"), (0, .fieldref 8 14), (0, .nameAndType 15 12), (0, u "RUNTIME_INCONSISTENCY"), (0, .fieldref 8 17), (0, .nameAndType 18 12), (0, u "MARSHALLING_ERROR"), (0, .fieldref 8 20), (0, .nameAndType 21 12), (0, u "UNIMPLEMENTED"), (0, .fieldref 8 23), (0, .nameAndType 24 12), (0, u "BAD_ARGUMENTS"), (0, .fieldref 8 26), (0, .nameAndType 27 12), (0, u "NO_NODE"), (0, .fieldref 8 29), (0, .nameAndType 30 12), (0, u "BAD_VERSION"), (0, .fieldref 8 32), (0, .nameAndType 33 12), (0, u "NO_CHILDREN_FOR_EPHEMERALS"), (0, .fieldref 8 35), (0, .nameAndType 36 12), (0, u "NODE_EXISTS"), (0, .fieldref 8 38), (0, .nameAndType 39 12), (0, u "NOT_EMPTY"), (0, .fieldref 8 41), (0, .nameAndType 42 12), (0, u "SESSION_EXPIRED"), (0, .methodref 44 45), (0, .class_ 46), (0, .nameAndType 47 48), (0, u "java/util/Optional"), (0, u "orElse"), (0, u "(Ljava/lang/Object;)Ljava/lang/Object;"), (0, .integer 2147483647), (0, .methodref 51 52), (0, .class_ 53), (0, .nameAndType 54 55), (0, u "com/example/usher/usher/wire/ErrorCodeForCodePinLaw"), (0, u "pick"), (0, u "(I)Lcom/example/usher/usher/wire/ErrorCode;"), (0, .methodref 8 57), (0, .nameAndType 58 59), (0, u "forCode"), (0, u "(I)Ljava/util/Optional;"), (0, .methodref 8 61), (0, .nameAndType 62 63), (0, u "code"), (0, u "()I"), (0, .methodref 51 65), (0, .nameAndType 66 55), (0, u "expected"), (0, .methodref 51 68), (0, .nameAndType 69 70), (0, u "same"), (0, u "(Ljava/util/Optional;Lcom/example/usher/usher/wire/ErrorCode;)Z"), (5, u "law"), (0, u "(II)Z")] 2

def k1m0 : Method := { name := "<init>", desc := "()V", sig := { parameters := [], returnType := none }, accessFlags := 2, code := none }
def k1c1 : Code := { maxStack := 2, maxLocals := 1, code := method_2_code, exceptionTable := #[], attributes := #[] }
def k1m1 : Method := { name := "expected", desc := "(I)Lcom/example/usher/usher/wire/ErrorCode;", sig := { parameters := [.int], returnType := some (.object "com/example/usher/usher/wire/ErrorCode") }, accessFlags := 10, code := some k1c1 }
def k1c2 : Code := { maxStack := 2, maxLocals := 1, code := method_3_code, exceptionTable := #[], attributes := #[] }
def k1m2 : Method := { name := "pick", desc := "(I)Lcom/example/usher/usher/wire/ErrorCode;", sig := { parameters := [.int], returnType := some (.object "com/example/usher/usher/wire/ErrorCode") }, accessFlags := 10, code := some k1c2 }
def k1c3 : Code := { maxStack := 2, maxLocals := 2, code := method_4_code, exceptionTable := #[], attributes := #[] }
def k1m3 : Method := { name := "same", desc := "(Ljava/util/Optional;Lcom/example/usher/usher/wire/ErrorCode;)Z", sig := { parameters := [(.object "java/util/Optional"), (.object "com/example/usher/usher/wire/ErrorCode")], returnType := some .boolean }, accessFlags := 10, code := some k1c3 }
def k1c4 : Code := { maxStack := 2, maxLocals := 7, code := code, exceptionTable := #[], attributes := #[] }
def k1m4 : Method := { name := "law", desc := "(II)Z", sig := { parameters := [.int, .int], returnType := some .boolean }, accessFlags := 9, code := some k1c4 }
/-- com/example/usher/usher/wire/ErrorCodeForCodePinLaw -/
def k1 : Class := { plain "com/example/usher/usher/wire/ErrorCodeForCodePinLaw" (some 0) with
  accessFlags := 49
  interfaces := #[]
  cf := some (fileOf pool1 51 #[] #[{ accessFlags := 2, nameIndex := 5, descriptorIndex := 6, attributes := #[] }, { accessFlags := 10, nameIndex := 66, descriptorIndex := 55, attributes := #[] }, { accessFlags := 10, nameIndex := 54, descriptorIndex := 55, attributes := #[] }, { accessFlags := 10, nameIndex := 69, descriptorIndex := 70, attributes := #[] }, { accessFlags := 9, nameIndex := 76, descriptorIndex := 77, attributes := #[] }] 49 2 #[] #[])
  fields := #[]
  methods := #[k1m0, k1m1, k1m2, k1m3, k1m4]
  instanceTypes := #[]
  staticTypes := #[]
  resolved := Array.replicate 80 none
  statics := none }

def pool2 : Array CpInfo := pool [(1, .class_ 2), (0, u "java/lang/constant/Constable"), (0, .class_ 4), (0, u "java/lang/Object")] 6

/-- java/lang/constant/Constable -/
def k2 : Class := { plain "java/lang/constant/Constable" (some 0) with
  accessFlags := 1537
  interfaces := #[]
  cf := some (fileOf pool2 1 #[] #[] 1537 3 #[] #[])
  fields := #[]
  methods := #[]
  instanceTypes := #[]
  staticTypes := #[]
  resolved := Array.replicate 11 none
  statics := none }

def pool3 : Array CpInfo := pool [(1, .class_ 2), (0, u "java/lang/Comparable"), (0, .class_ 4), (0, u "java/lang/Object")] 7

/-- java/lang/Comparable -/
def k3 : Class := { plain "java/lang/Comparable" (some 0) with
  accessFlags := 1537
  interfaces := #[]
  cf := some (fileOf pool3 1 #[] #[] 1537 3 #[] #[])
  fields := #[]
  methods := #[]
  instanceTypes := #[]
  staticTypes := #[]
  resolved := Array.replicate 12 none
  statics := none }

def pool4 : Array CpInfo := pool [(1, .class_ 2), (0, u "java/io/Serializable"), (0, .class_ 4), (0, u "java/lang/Object")] 2

/-- java/io/Serializable -/
def k4 : Class := { plain "java/io/Serializable" (some 0) with
  accessFlags := 1537
  interfaces := #[]
  cf := some (fileOf pool4 1 #[] #[] 1537 3 #[] #[])
  fields := #[]
  methods := #[]
  instanceTypes := #[]
  staticTypes := #[]
  resolved := Array.replicate 7 none
  statics := none }

def pool5 : Array CpInfo := pool [(2, .class_ 4), (1, u "java/lang/Enum"), (0, u "name"), (0, u "Ljava/lang/String;"), (2, u "ordinal"), (0, u "I"), (1, .class_ 14), (1, u "java/lang/Object"), (4, u "hash"), (86, .class_ 108), (1, u "java/lang/Enum$EnumDesc"), (2, .class_ 112), (0, u "java/lang/constant/Constable"), (0, .class_ 114), (0, u "java/lang/Comparable"), (0, .class_ 116), (0, u "java/io/Serializable")] 87

/-- java/lang/Enum -/
def k5 : Class := { plain "java/lang/Enum" (some 0) with
  accessFlags := 1057
  interfaces := #[2, 3, 4]
  cf := some (fileOf pool5 2 #[.nestMembers #[106]] #[] 1057 12 #[111, 113, 115] #[{ accessFlags := 18, nameIndex := 5, descriptorIndex := 6, attributes := #[] }, { accessFlags := 18, nameIndex := 9, descriptorIndex := 10, attributes := #[] }, { accessFlags := 2, nameIndex := 19, descriptorIndex := 10, attributes := #[] }])
  fields := #[{ name := "name", type := (.object "java/lang/String"), accessFlags := 18, slot := 0, constantValue := 0 }, { name := "ordinal", type := .int, accessFlags := 18, slot := 1, constantValue := 0 }, { name := "hash", type := .int, accessFlags := 2, slot := 2, constantValue := 0 }]
  methods := #[]
  instanceTypes := #[(.object "java/lang/String"), .int, .int]
  staticTypes := #[]
  resolved := Array.replicate 204 none
  statics := none }

def pool6 : Array CpInfo := pool [(1, .class_ 2), (0, u "com/example/usher/usher/wire/ErrorCode"), (2, u "OK"), (0, u "Lcom/example/usher/usher/wire/ErrorCode;"), (2, u "RUNTIME_INCONSISTENCY"), (2, u "MARSHALLING_ERROR"), (2, u "UNIMPLEMENTED"), (2, u "BAD_ARGUMENTS"), (2, u "NO_NODE"), (2, u "BAD_VERSION"), (2, u "NO_CHILDREN_FOR_EPHEMERALS"), (2, u "NODE_EXISTS"), (2, u "NOT_EMPTY"), (2, u "SESSION_EXPIRED"), (2, u "$VALUES"), (0, u "[Lcom/example/usher/usher/wire/ErrorCode;"), (6, .class_ 49), (1, u "java/lang/Enum"), (6, .fieldref 1 57), (0, .nameAndType 58 59), (0, u "code"), (0, u "I"), (0, .fieldref 1 61), (0, .nameAndType 62 40), (0, u "VALUES"), (0, .methodref 64 65), (0, .class_ 66), (0, .nameAndType 67 68), (0, u "java/util/Optional"), (0, u "of"), (0, u "(Ljava/lang/Object;)Ljava/util/Optional;"), (0, .methodref 64 70), (0, .nameAndType 71 72), (0, u "empty"), (0, u "()Ljava/util/Optional;"), (27, u "()I"), (0, u "forCode"), (0, u "(I)Ljava/util/Optional;")] 7

def k6c0 : Code := { maxStack := 1, maxLocals := 1, code := prog_14_method_4_code, exceptionTable := #[], attributes := #[] }
def k6m0 : Method := { name := "code", desc := "()I", sig := { parameters := [], returnType := some .int }, accessFlags := 1, code := some k6c0 }
def k6c1 : Code := { maxStack := 2, maxLocals := 5, code := prog_14_method_5_code, exceptionTable := #[], attributes := #[] }
def k6m1 : Method := { name := "forCode", desc := "(I)Ljava/util/Optional;", sig := { parameters := [.int], returnType := some (.object "java/util/Optional") }, accessFlags := 9, code := some k6c1 }
/-- com/example/usher/usher/wire/ErrorCode -/
def k6 : Class := { plain "com/example/usher/usher/wire/ErrorCode" (some 5) with
  accessFlags := 16433
  interfaces := #[]
  cf := some (fileOf pool6 1 #[] #[{ accessFlags := 1, nameIndex := 58, descriptorIndex := 100, attributes := #[] }, { accessFlags := 9, nameIndex := 101, descriptorIndex := 102, attributes := #[] }] 16433 47 #[] #[{ accessFlags := 16409, nameIndex := 5, descriptorIndex := 6, attributes := #[] }, { accessFlags := 16409, nameIndex := 9, descriptorIndex := 6, attributes := #[] }, { accessFlags := 16409, nameIndex := 12, descriptorIndex := 6, attributes := #[] }, { accessFlags := 16409, nameIndex := 15, descriptorIndex := 6, attributes := #[] }, { accessFlags := 16409, nameIndex := 18, descriptorIndex := 6, attributes := #[] }, { accessFlags := 16409, nameIndex := 21, descriptorIndex := 6, attributes := #[] }, { accessFlags := 16409, nameIndex := 24, descriptorIndex := 6, attributes := #[] }, { accessFlags := 16409, nameIndex := 27, descriptorIndex := 6, attributes := #[] }, { accessFlags := 16409, nameIndex := 30, descriptorIndex := 6, attributes := #[] }, { accessFlags := 16409, nameIndex := 33, descriptorIndex := 6, attributes := #[] }, { accessFlags := 16409, nameIndex := 36, descriptorIndex := 6, attributes := #[] }, { accessFlags := 26, nameIndex := 62, descriptorIndex := 40, attributes := #[] }, { accessFlags := 18, nameIndex := 58, descriptorIndex := 59, attributes := #[] }, { accessFlags := 4122, nameIndex := 39, descriptorIndex := 40, attributes := #[] }])
  fields := #[{ name := "OK", type := (.object "com/example/usher/usher/wire/ErrorCode"), accessFlags := 16409, slot := 0, constantValue := 0 }, { name := "RUNTIME_INCONSISTENCY", type := (.object "com/example/usher/usher/wire/ErrorCode"), accessFlags := 16409, slot := 1, constantValue := 0 }, { name := "MARSHALLING_ERROR", type := (.object "com/example/usher/usher/wire/ErrorCode"), accessFlags := 16409, slot := 2, constantValue := 0 }, { name := "UNIMPLEMENTED", type := (.object "com/example/usher/usher/wire/ErrorCode"), accessFlags := 16409, slot := 3, constantValue := 0 }, { name := "BAD_ARGUMENTS", type := (.object "com/example/usher/usher/wire/ErrorCode"), accessFlags := 16409, slot := 4, constantValue := 0 }, { name := "NO_NODE", type := (.object "com/example/usher/usher/wire/ErrorCode"), accessFlags := 16409, slot := 5, constantValue := 0 }, { name := "BAD_VERSION", type := (.object "com/example/usher/usher/wire/ErrorCode"), accessFlags := 16409, slot := 6, constantValue := 0 }, { name := "NO_CHILDREN_FOR_EPHEMERALS", type := (.object "com/example/usher/usher/wire/ErrorCode"), accessFlags := 16409, slot := 7, constantValue := 0 }, { name := "NODE_EXISTS", type := (.object "com/example/usher/usher/wire/ErrorCode"), accessFlags := 16409, slot := 8, constantValue := 0 }, { name := "NOT_EMPTY", type := (.object "com/example/usher/usher/wire/ErrorCode"), accessFlags := 16409, slot := 9, constantValue := 0 }, { name := "SESSION_EXPIRED", type := (.object "com/example/usher/usher/wire/ErrorCode"), accessFlags := 16409, slot := 10, constantValue := 0 }, { name := "VALUES", type := (.array (.object "com/example/usher/usher/wire/ErrorCode")), accessFlags := 26, slot := 11, constantValue := 0 }, { name := "code", type := .int, accessFlags := 18, slot := 3, constantValue := 0 }, { name := "$VALUES", type := (.array (.object "com/example/usher/usher/wire/ErrorCode")), accessFlags := 4122, slot := 12, constantValue := 0 }]
  methods := #[k6m0, k6m1]
  instanceTypes := #[(.object "java/lang/String"), .int, .int, .int]
  staticTypes := #[(.object "com/example/usher/usher/wire/ErrorCode"), (.object "com/example/usher/usher/wire/ErrorCode"), (.object "com/example/usher/usher/wire/ErrorCode"), (.object "com/example/usher/usher/wire/ErrorCode"), (.object "com/example/usher/usher/wire/ErrorCode"), (.object "com/example/usher/usher/wire/ErrorCode"), (.object "com/example/usher/usher/wire/ErrorCode"), (.object "com/example/usher/usher/wire/ErrorCode"), (.object "com/example/usher/usher/wire/ErrorCode"), (.object "com/example/usher/usher/wire/ErrorCode"), (.object "com/example/usher/usher/wire/ErrorCode"), (.array (.object "com/example/usher/usher/wire/ErrorCode")), (.array (.object "com/example/usher/usher/wire/ErrorCode"))]
  resolved := Array.replicate 110 none
  statics := some 0 }

def pool7 : Array CpInfo := pool [(1, .fieldref 2 3), (0, .class_ 4), (0, .nameAndType 5 6), (0, u "java/util/Optional"), (0, u "EMPTY"), (0, u "Ljava/util/Optional;"), (0, .methodref 8 9), (0, .class_ 10), (0, .nameAndType 11 12), (0, u "java/lang/Object"), (0, u "<init>"), (0, u "()V"), (0, .fieldref 2 14), (0, .nameAndType 15 16), (0, u "value"), (0, u "Ljava/lang/Object;"), (0, .methodref 18 19), (0, .class_ 20), (0, .nameAndType 21 22), (0, u "java/util/Objects"), (0, u "requireNonNull"), (0, u "(Ljava/lang/Object;)Ljava/lang/Object;"), (0, .methodref 2 24), (0, .nameAndType 11 25), (0, u "(Ljava/lang/Object;)V"), (29, u "empty"), (0, u "()Ljava/util/Optional;"), (8, u "(Ljava/lang/Object;)Ljava/util/Optional;"), (16, u "of"), (82, u "orElse")] 21

def k7c0 : Code := { maxStack := 1, maxLocals := 1, code := jdk_32_method_1_code, exceptionTable := #[], attributes := #[] }
def k7m0 : Method := { name := "empty", desc := "()Ljava/util/Optional;", sig := { parameters := [], returnType := some (.object "java/util/Optional") }, accessFlags := 9, code := some k7c0 }
def k7c1 : Code := { maxStack := 2, maxLocals := 2, code := jdk_32_method_2_code, exceptionTable := #[], attributes := #[] }
def k7m1 : Method := { name := "<init>", desc := "(Ljava/lang/Object;)V", sig := { parameters := [(.object "java/lang/Object")], returnType := none }, accessFlags := 2, code := some k7c1 }
def k7c2 : Code := { maxStack := 3, maxLocals := 1, code := jdk_32_method_3_code, exceptionTable := #[], attributes := #[] }
def k7m2 : Method := { name := "of", desc := "(Ljava/lang/Object;)Ljava/util/Optional;", sig := { parameters := [(.object "java/lang/Object")], returnType := some (.object "java/util/Optional") }, accessFlags := 9, code := some k7c2 }
def k7c3 : Code := { maxStack := 1, maxLocals := 2, code := jdk_32_method_15_code, exceptionTable := #[], attributes := #[] }
def k7m3 : Method := { name := "orElse", desc := "(Ljava/lang/Object;)Ljava/lang/Object;", sig := { parameters := [(.object "java/lang/Object")], returnType := some (.object "java/lang/Object") }, accessFlags := 1, code := some k7c3 }
/-- java/util/Optional -/
def k7 : Class := { plain "java/util/Optional" (some 0) with
  accessFlags := 49
  interfaces := #[]
  cf := some (fileOf pool7 2 #[] #[{ accessFlags := 9, nameIndex := 55, descriptorIndex := 56, attributes := #[] }, { accessFlags := 2, nameIndex := 11, descriptorIndex := 25, attributes := #[] }, { accessFlags := 9, nameIndex := 82, descriptorIndex := 65, attributes := #[] }, { accessFlags := 1, nameIndex := 165, descriptorIndex := 22, attributes := #[] }] 49 8 #[] #[{ accessFlags := 26, nameIndex := 5, descriptorIndex := 6, attributes := #[] }, { accessFlags := 18, nameIndex := 15, descriptorIndex := 16, attributes := #[] }])
  fields := #[{ name := "EMPTY", type := (.object "java/util/Optional"), accessFlags := 26, slot := 0, constantValue := 0 }, { name := "value", type := (.object "java/lang/Object"), accessFlags := 18, slot := 0, constantValue := 0 }]
  methods := #[k7m0, k7m1, k7m2, k7m3]
  instanceTypes := #[(.object "java/lang/Object")]
  staticTypes := #[(.object "java/util/Optional")]
  resolved := Array.replicate 187 none
  statics := some 1 }

def pool8 : Array CpInfo := pool [(2, .class_ 4), (1, u "java/lang/Object"), (0, u "<init>"), (0, u "()V"), (35, .class_ 44), (1, u "java/util/Objects"), (0, u "requireNonNull"), (0, u "(Ljava/lang/Object;)Ljava/lang/Object;")] 137

def k8m0 : Method := { name := "<init>", desc := "()V", sig := { parameters := [], returnType := none }, accessFlags := 2, code := none }
def k8c1 : Code := { maxStack := 2, maxLocals := 1, code := jdk_31_method_10_code, exceptionTable := #[], attributes := #[] }
def k8m1 : Method := { name := "requireNonNull", desc := "(Ljava/lang/Object;)Ljava/lang/Object;", sig := { parameters := [(.object "java/lang/Object")], returnType := some (.object "java/lang/Object") }, accessFlags := 9, code := some k8c1 }
/-- java/util/Objects -/
def k8 : Class := { plain "java/util/Objects" (some 0) with
  accessFlags := 49
  interfaces := #[]
  cf := some (fileOf pool8 42 #[] #[{ accessFlags := 2, nameIndex := 5, descriptorIndex := 6, attributes := #[] }, { accessFlags := 9, nameIndex := 45, descriptorIndex := 46, attributes := #[] }] 49 2 #[] #[])
  fields := #[]
  methods := #[k8m0, k8m1]
  instanceTypes := #[]
  staticTypes := #[]
  resolved := Array.replicate 184 none
  statics := none }

def pool9 : Array CpInfo := pool [(1, u "java/lang/Cloneable"), (0, .class_ 1), (0, u "java/lang/Object"), (0, .class_ 3)] 3

/-- java/lang/Cloneable -/
def k9 : Class := { plain "java/lang/Cloneable" (some 0) with
  accessFlags := 1537
  interfaces := #[]
  cf := some (fileOf pool9 2 #[] #[] 1537 4 #[] #[])
  fields := #[]
  methods := #[]
  instanceTypes := #[]
  staticTypes := #[]
  resolved := Array.replicate 8 none
  statics := none }

/-- the primitive byte -/
def k10 : Class := { plain "byte" none with kind := .primitive 'B', accessFlags := 0x411 }
/-- [B -/
def k11 : Class := { plain "[B" (some 0) with kind := .array 10 .byte, interfaces := #[9, 4], accessFlags := 1041 }

/-- the primitive int -/
def k12 : Class := { plain "int" none with kind := .primitive 'I', accessFlags := 0x411 }
/-- [I -/
def k13 : Class := { plain "[I" (some 0) with kind := .array 12 .int, interfaces := #[9, 4], accessFlags := 1041 }

/-- [Lcom/example/usher/usher/wire/ErrorCode; -/
def k14 : Class := { plain "[Lcom/example/usher/usher/wire/ErrorCode;" (some 0) with kind := .array 6 (.object "com/example/usher/usher/wire/ErrorCode"), interfaces := #[9, 4], accessFlags := 1041 }

def heap : Heap := #[{ cls := 6, slots := #[.ref 4, .ref 5, .ref 6, .ref 3, .ref 7, .ref 8, .ref 9, .ref 10, .ref 11, .ref 12, .ref 13, .ref 2, .null], vm := .statics 6 },
  { cls := 7, slots := #[.ref 14], vm := .statics 7 },
  { cls := 14, slots := #[.ref 4, .ref 5, .ref 6, .ref 3, .ref 7, .ref 8, .ref 9, .ref 10, .ref 11, .ref 12, .ref 13], vm := .none },
  { cls := 6, slots := #[.null, .int 0, .int 0, .int (-6)], vm := .none },
  { cls := 6, slots := #[.null, .int 0, .int 0, .int 0], vm := .none },
  { cls := 6, slots := #[.null, .int 0, .int 0, .int (-2)], vm := .none },
  { cls := 6, slots := #[.null, .int 0, .int 0, .int (-5)], vm := .none },
  { cls := 6, slots := #[.null, .int 0, .int 0, .int (-8)], vm := .none },
  { cls := 6, slots := #[.null, .int 0, .int 0, .int (-101)], vm := .none },
  { cls := 6, slots := #[.null, .int 0, .int 0, .int (-103)], vm := .none },
  { cls := 6, slots := #[.null, .int 0, .int 0, .int (-108)], vm := .none },
  { cls := 6, slots := #[.null, .int 0, .int 0, .int (-110)], vm := .none },
  { cls := 6, slots := #[.null, .int 0, .int 0, .int (-111)], vm := .none },
  { cls := 6, slots := #[.null, .int 0, .int 0, .int (-112)], vm := .none },
  { cls := 7, slots := #[.null], vm := .none }]
def classes : Array Class := #[k0, k1, k2, k3, k4, k5, k6, k7, k8, k9, k10, k11, k12, k13, k14]
def interned : List (Array UInt16 × Addr) := []
def slotsUsed : Nat := 70
def theMethod : MethodId := ⟨1, 4⟩
def args0 : Array Value := #[.int 5, .int 4]
def aboutOver (below : List Frame) : State where
  vm := { classes := classes, interned := interned.toArray }
  heap := heap
  slotsUsed := slotsUsed
  threads := #[{ frames := .invoking theMethod args0 :: below }]
def below0 : List Frame := [.native { method := ⟨0, 0⟩, args := #[] }]
def about1 : State := aboutOver below0
def p0 : Program := .bare "" "" ""
def e0 : Env := launch0.env 0 0 0
theorem w_frames : about1.frames = Frame.invoking theMethod args0 :: below0 := rfl
set_option maxRecDepth 65536 in
theorem w_args : argsFit about1.vm theMethod args0 = true := by decide +kernel
set_option maxRecDepth 65536 in
theorem w_heap : heapFits about1 = true := by decide +kernel
set_option maxRecDepth 65536 in
theorem w_runnable : about1.curStatus? = some .runnable := by decide +kernel
set_option maxRecDepth 65536 in
theorem w_alone : about1.alone = true := by decide +kernel
set_option maxRecDepth 65536 in
theorem w_named : about1.methodNamed? x = some theMethod := by decide +kernel
set_option maxRecDepth 65536 in
theorem w_hears : about1.hears theMethod below0 = true := by decide +kernel
set_option maxRecDepth 65536 in
theorem w_ripe : about1.ripe theMethod args0 below0 = true := by decide +kernel
theorem w_running : about1.status = .running := rfl
set_option maxRecDepth 65536 in
theorem w_room : about1.hasRoom e0.platform room_1 = true :=
  launch0.hasRoom_least _ room_1 (by decide +kernel) (by decide +kernel) (by decide +kernel) (by decide +kernel) (by decide +kernel) (by decide +kernel)
theorem allAtoms_all (ts : List Jvm.Cond) (a : Array Jvm.Value) (st : Jvm.State) : (allAtoms ts).before a st = ts.all (fun c => c.before a st) := by
  induction ts with
  | nil => rfl
  | cons c t ih =>
    show (Jvm.Cond.and c (allAtoms t)).before a st = _
    rw [Jvm.Cond.before_and, ih, List.all_cons]
def words1 : List Jvm.Cond := Jvm.Cond.code x code maxLocals ret :: tables_1
/-- a 'code' word, met by the world's own term for the bytes: nothing is compared byte by byte -/
theorem code_word {y : MethodName} {bytes : ByteArray} {mx : Nat} {rt : Option FieldType} {a : Array Value} {s : State} {m : MethodId} {meth : Method} {c : Code} (h1 : s.methodNamed? y = some m) (h2 : s.vm.method? m = some meth) (h3 : meth.code = some c) (h4 : c.code = bytes)
    (h5 : (c.maxLocals == mx && c.exceptionTable.isEmpty && decide (c.maxStack ≤ mostOperands) && decide (meth.sig.returnType = rt) && !meth.locks && decide (parseMethodDescriptor y.desc = some meth.sig)) = true) : (Jvm.Cond.code y bytes mx rt).before a s = true := by
  simp only [Bool.and_eq_true, beq_iff_eq, Bool.not_eq_true', decide_eq_true_eq] at h5
  obtain ⟨⟨⟨⟨⟨g1, g2⟩, g3⟩, g4⟩, g5⟩, g6⟩ := h5
  simp [Cond.before, Cond.holds, Cond.value, h1, h2, h3, h4, g1, g2, g3, g4, g5, g6]
def isCode : Jvm.Cond → Bool
  | .code _ _ _ _ => true
  | _ => false
theorem all_split {L : List Jvm.Cond} {P : Jvm.Cond → Bool} (h1 : L.all (fun c => isCode c || P c) = true) (h2 : ∀ c ∈ L.filter isCode, P c = true) : L.all P = true := by
  refine List.all_eq_true.mpr fun c hc => ?_
  have h := List.all_eq_true.mp h1 c hc
  rcases Bool.eq_false_or_eq_true (isCode c) with hi | hi
  · exact h2 c (List.mem_filter.mpr ⟨hc, hi⟩)
  · simpa [hi] using h
set_option maxRecDepth 65536 in
theorem w_c0 : (Jvm.Cond.code x code maxLocals ret).before args0 about1 = true := code_word (m := ⟨1, 4⟩) (meth := k1m4) (c := k1c4) (by decide +kernel) rfl rfl rfl (by decide +kernel)
set_option maxRecDepth 65536 in
theorem w_c1 : (Jvm.Cond.code ({ cls := "com/example/usher/usher/wire/ErrorCodeForCodePinLaw", name := "pick", desc := "(I)Lcom/example/usher/usher/wire/ErrorCode;" } : Jvm.MethodName) method_3_code (1 : Nat) (Option.some (Jvm.ClassFile.FieldType.object "com/example/usher/usher/wire/ErrorCode"))).before args0 about1 = true := code_word (m := ⟨1, 2⟩) (meth := k1m2) (c := k1c2) (by decide +kernel) rfl rfl rfl (by decide +kernel)
set_option maxRecDepth 65536 in
theorem w_c2 : (Jvm.Cond.code ({ cls := "com/example/usher/usher/wire/ErrorCode", name := "forCode", desc := "(I)Ljava/util/Optional;" } : Jvm.MethodName) prog_14_method_5_code (5 : Nat) (Option.some (Jvm.ClassFile.FieldType.object "java/util/Optional"))).before args0 about1 = true := code_word (m := ⟨6, 1⟩) (meth := k6m1) (c := k6c1) (by decide +kernel) rfl rfl rfl (by decide +kernel)
set_option maxRecDepth 65536 in
theorem w_c3 : (Jvm.Cond.code ({ cls := "java/util/Optional", name := "of", desc := "(Ljava/lang/Object;)Ljava/util/Optional;" } : Jvm.MethodName) jdk_32_method_3_code (1 : Nat) (Option.some (Jvm.ClassFile.FieldType.object "java/util/Optional"))).before args0 about1 = true := code_word (m := ⟨7, 2⟩) (meth := k7m2) (c := k7c2) (by decide +kernel) rfl rfl rfl (by decide +kernel)
set_option maxRecDepth 65536 in
theorem w_c4 : (Jvm.Cond.code ({ cls := "java/util/Objects", name := "requireNonNull", desc := "(Ljava/lang/Object;)Ljava/lang/Object;" } : Jvm.MethodName) jdk_31_method_10_code (1 : Nat) (Option.some (Jvm.ClassFile.FieldType.object "java/lang/Object"))).before args0 about1 = true := code_word (m := ⟨8, 1⟩) (meth := k8m1) (c := k8c1) (by decide +kernel) rfl rfl rfl (by decide +kernel)
set_option maxRecDepth 65536 in
theorem w_c5 : (Jvm.Cond.code ({ cls := "java/util/Optional", name := "<init>", desc := "(Ljava/lang/Object;)V" } : Jvm.MethodName) jdk_32_method_2_code (2 : Nat) (Option.none : Option Jvm.ClassFile.FieldType)).before args0 about1 = true := code_word (m := ⟨7, 1⟩) (meth := k7m1) (c := k7c1) (by decide +kernel) rfl rfl rfl (by decide +kernel)
set_option maxRecDepth 65536 in
theorem w_c6 : (Jvm.Cond.code ({ cls := "java/lang/Object", name := "<init>", desc := "()V" } : Jvm.MethodName) object_method_1_code (1 : Nat) (Option.none : Option Jvm.ClassFile.FieldType)).before args0 about1 = true := code_word (m := ⟨0, 0⟩) (meth := k0m0) (c := k0c0) (by decide +kernel) rfl rfl rfl (by decide +kernel)
set_option maxRecDepth 65536 in
theorem w_c7 : (Jvm.Cond.code ({ cls := "com/example/usher/usher/wire/ErrorCode", name := "code", desc := "()I" } : Jvm.MethodName) prog_14_method_4_code (1 : Nat) (Option.some Jvm.ClassFile.FieldType.int)).before args0 about1 = true := code_word (m := ⟨6, 0⟩) (meth := k6m0) (c := k6c0) (by decide +kernel) rfl rfl rfl (by decide +kernel)
set_option maxRecDepth 65536 in
theorem w_c8 : (Jvm.Cond.code ({ cls := "com/example/usher/usher/wire/ErrorCodeForCodePinLaw", name := "expected", desc := "(I)Lcom/example/usher/usher/wire/ErrorCode;" } : Jvm.MethodName) method_2_code (1 : Nat) (Option.some (Jvm.ClassFile.FieldType.object "com/example/usher/usher/wire/ErrorCode"))).before args0 about1 = true := code_word (m := ⟨1, 1⟩) (meth := k1m1) (c := k1c1) (by decide +kernel) rfl rfl rfl (by decide +kernel)
set_option maxRecDepth 65536 in
theorem w_c9 : (Jvm.Cond.code ({ cls := "com/example/usher/usher/wire/ErrorCodeForCodePinLaw", name := "same", desc := "(Ljava/util/Optional;Lcom/example/usher/usher/wire/ErrorCode;)Z" } : Jvm.MethodName) method_4_code (2 : Nat) (Option.some Jvm.ClassFile.FieldType.boolean)).before args0 about1 = true := code_word (m := ⟨1, 3⟩) (meth := k1m3) (c := k1c3) (by decide +kernel) rfl rfl rfl (by decide +kernel)
set_option maxRecDepth 65536 in
theorem w_c10 : (Jvm.Cond.code ({ cls := "java/util/Optional", name := "orElse", desc := "(Ljava/lang/Object;)Ljava/lang/Object;" } : Jvm.MethodName) jdk_32_method_15_code (2 : Nat) (Option.some (Jvm.ClassFile.FieldType.object "java/lang/Object"))).before args0 about1 = true := code_word (m := ⟨7, 3⟩) (meth := k7m3) (c := k7c3) (by decide +kernel) rfl rfl rfl (by decide +kernel)
set_option maxRecDepth 65536 in
theorem w_c11 : (Jvm.Cond.code ({ cls := "java/util/Optional", name := "empty", desc := "()Ljava/util/Optional;" } : Jvm.MethodName) jdk_32_method_1_code (1 : Nat) (Option.some (Jvm.ClassFile.FieldType.object "java/util/Optional"))).before args0 about1 = true := code_word (m := ⟨7, 0⟩) (meth := k7m0) (c := k7c0) (by decide +kernel) rfl rfl rfl (by decide +kernel)
def codes1 : List Jvm.Cond := [Jvm.Cond.code x code maxLocals ret, Jvm.Cond.code ({ cls := "com/example/usher/usher/wire/ErrorCodeForCodePinLaw", name := "pick", desc := "(I)Lcom/example/usher/usher/wire/ErrorCode;" } : Jvm.MethodName) method_3_code (1 : Nat) (Option.some (Jvm.ClassFile.FieldType.object "com/example/usher/usher/wire/ErrorCode")), Jvm.Cond.code ({ cls := "com/example/usher/usher/wire/ErrorCode", name := "forCode", desc := "(I)Ljava/util/Optional;" } : Jvm.MethodName) prog_14_method_5_code (5 : Nat) (Option.some (Jvm.ClassFile.FieldType.object "java/util/Optional")), Jvm.Cond.code ({ cls := "java/util/Optional", name := "of", desc := "(Ljava/lang/Object;)Ljava/util/Optional;" } : Jvm.MethodName) jdk_32_method_3_code (1 : Nat) (Option.some (Jvm.ClassFile.FieldType.object "java/util/Optional")), Jvm.Cond.code ({ cls := "java/util/Objects", name := "requireNonNull", desc := "(Ljava/lang/Object;)Ljava/lang/Object;" } : Jvm.MethodName) jdk_31_method_10_code (1 : Nat) (Option.some (Jvm.ClassFile.FieldType.object "java/lang/Object")), Jvm.Cond.code ({ cls := "java/util/Optional", name := "<init>", desc := "(Ljava/lang/Object;)V" } : Jvm.MethodName) jdk_32_method_2_code (2 : Nat) (Option.none : Option Jvm.ClassFile.FieldType), Jvm.Cond.code ({ cls := "java/lang/Object", name := "<init>", desc := "()V" } : Jvm.MethodName) object_method_1_code (1 : Nat) (Option.none : Option Jvm.ClassFile.FieldType), Jvm.Cond.code ({ cls := "com/example/usher/usher/wire/ErrorCode", name := "code", desc := "()I" } : Jvm.MethodName) prog_14_method_4_code (1 : Nat) (Option.some Jvm.ClassFile.FieldType.int), Jvm.Cond.code ({ cls := "com/example/usher/usher/wire/ErrorCodeForCodePinLaw", name := "expected", desc := "(I)Lcom/example/usher/usher/wire/ErrorCode;" } : Jvm.MethodName) method_2_code (1 : Nat) (Option.some (Jvm.ClassFile.FieldType.object "com/example/usher/usher/wire/ErrorCode")), Jvm.Cond.code ({ cls := "com/example/usher/usher/wire/ErrorCodeForCodePinLaw", name := "same", desc := "(Ljava/util/Optional;Lcom/example/usher/usher/wire/ErrorCode;)Z" } : Jvm.MethodName) method_4_code (2 : Nat) (Option.some Jvm.ClassFile.FieldType.boolean), Jvm.Cond.code ({ cls := "java/util/Optional", name := "orElse", desc := "(Ljava/lang/Object;)Ljava/lang/Object;" } : Jvm.MethodName) jdk_32_method_15_code (2 : Nat) (Option.some (Jvm.ClassFile.FieldType.object "java/lang/Object")), Jvm.Cond.code ({ cls := "java/util/Optional", name := "empty", desc := "()Ljava/util/Optional;" } : Jvm.MethodName) jdk_32_method_1_code (1 : Nat) (Option.some (Jvm.ClassFile.FieldType.object "java/util/Optional"))]
set_option maxRecDepth 65536 in
theorem codes_eq : words1.filter isCode = codes1 := rfl
theorem w_codes : ∀ c ∈ words1.filter isCode, c.before args0 about1 = true := by
  rw [codes_eq]
  intro c hc
  simp only [codes1, List.mem_cons, List.not_mem_nil, or_false] at hc
  rcases hc with rfl | rfl | rfl | rfl | rfl | rfl | rfl | rfl | rfl | rfl | rfl | rfl
  · exact w_c0
  · exact w_c1
  · exact w_c2
  · exact w_c3
  · exact w_c4
  · exact w_c5
  · exact w_c6
  · exact w_c7
  · exact w_c8
  · exact w_c9
  · exact w_c10
  · exact w_c11
set_option maxRecDepth 65536 in
theorem w_t1 : (words1.take 24).all (fun c => isCode c || c.before args0 about1) = true := by decide +kernel
set_option maxRecDepth 65536 in
theorem w_t2 : ((words1.drop 24).take 24).all (fun c => isCode c || c.before args0 about1) = true := by decide +kernel
set_option maxRecDepth 65536 in
theorem w_t3 : (((words1.drop 24).drop 24).take 24).all (fun c => isCode c || c.before args0 about1) = true := by decide +kernel
set_option maxRecDepth 65536 in
theorem w_t4 : (((words1.drop 24).drop 24).drop 24).all (fun c => isCode c || c.before args0 about1) = true := by decide +kernel
theorem w_tables : (allAtoms (Jvm.Cond.code x code maxLocals ret :: tables_1)).before args0 about1 = true := by
  rw [allAtoms_all]
  show words1.all (fun c => c.before args0 about1) = true
  refine all_split ?_ w_codes
  rw [← List.take_append_drop 24 words1, List.all_append, w_t1, ← List.take_append_drop 24 (words1.drop 24), List.all_append, w_t2, ← List.take_append_drop 24 ((words1.drop 24).drop 24), List.all_append, w_t3, w_t4]
  rfl
set_option maxRecDepth 65536 in
theorem w_rest : rest_1_c.before args0 about1 = true := by decide +kernel
set_option maxRecDepth 65536 in
theorem w_case : (Jvm.Cond.and given_1 narrow_1).before args0 about1 = true := by decide +kernel
theorem w_applies : (headSpec (Jvm.Cond.code x code maxLocals ret :: tables_1) room_1).applies x e0.platform about1 = true :=
  (Spec.applies_iff w_frames).mpr ⟨w_running, w_runnable, w_alone, w_named, w_hears, w_ripe, w_room, w_tables⟩
theorem atStart : AtStart classFile x code maxLocals ret World_1 tables_1 room_1 Calls_1 rest_1 Pre_1 launch0 p0 e0 about1 theMethod args0 below0 :=
  ⟨lists_1, trivial, launch0.admits_env _ _ _, launch0.least_env, fairChoices_fair.cas, fairChoices_fair.clock, w_frames, w_args, w_heap, w_applies, trivial, w_rest, w_case⟩
end start1
theorem witness_1 : WitnessClaimed_1 := ⟨start1.p0, start1.e0, start1.about1, start1.theMethod, start1.args0, start1.below0, start1.atStart⟩
end Jvm.Pilot.@@N@@
