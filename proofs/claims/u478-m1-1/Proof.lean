import JvmDerived
import JvmDerived.Pilot.@@N@@Statement
import JvmDerived.Pilot.@@N@@Code
set_option linter.unusedVariables false
set_option linter.unusedSimpArgs false
namespace Jvm.RoadKit
open Sem ClassFile Op Lib Jvm.Stand Jvm.Free Jvm.LawKit
section New
variable {p : Program} {l : Launch} {e : Env} {R : Room} {s : State} {m : MethodId} {args : Array Value} {below : List Frame} {meth : Method} {c : Code} {T : State} {locs : List Loc} {cells slots : Nat}
theorem retI (X : Stand p l e R s m args below meth c T locs cells slots) (hx : p.tables.exec = Jvm.exec) {pc : Nat} {Ls : Array Slot} {z : Int32} {rest : List Value} (hret : meth.sig.returnType = some .int) (hd : decode c.code pc = .ok (.ireturn, 1)) {fs : List Frame}
    (hl : ∀ (f : JFrame) (acts : List Action), f.method = m → f.locked = none → f.entered = [] → (doReturn e (T.setTop f) acts (some (.int z))).1 = T.setFrames fs) : Steps p.tables e below (T.setTop (mkF m pc Ls (.int z :: rest))) (T.setFrames fs) := by
  have hm' : T.vm.method? m = some meth := X.method'
  have hn : narrow .int (.int z) = .int z := rfl
  show Steps p.tables e below (T.setTop { method := m, pc := pc, locals := Ls, stack := _ :: rest, locked := none }) _
  jvm_step X.here [X.here.top, hx, hd, hm', hret, hn]
  first | (intro acts; rw [hl _ acts rfl rfl rfl]) | rw [hl _ _ rfl rfl rfl]
  exact Steps.refl _
end New
end Jvm.RoadKit
namespace Jvm.Pilot.@@N@@
open Jvm Jvm.ClassFile Sem Op Lib Jvm.Free Jvm.Stand Jvm.LawKit Jvm.RoadKit Bundle Jvm.Pilot.@@N@@.Jvm.D
def QP (r : Option Value) (h0 : Heap) (n0 : Nat) (v : Option Value) (h : Heap) (L : List Loc) : Prop := v = r ∧ Fr n0 L ∧ h = h0
def QW (P : Option Value → Heap → Prop) (n0 : Nat) (v : Option Value) (h : Heap) (L : List Loc) : Prop := Fr n0 L ∧ P v h
def Q0 (n0 : Nat) (v : Option Value) (h : Heap) (L : List Loc) : Prop := v = some (.int 1) ∧ Fr n0 L
theorem own_selP {Z s : State} {a0 args : Array Value} {C : String} {y z w : MethodName} (hZ : Z.Warmed39 s.vm) (hs : (Jvm.Cond.selects C z w).before a0 Z = true) (he : w.cls = y.cls) (hp : (Jvm.Cond.privateMethod y).before a0 Z = true) (hi : (Jvm.Cond.instanceMethod y).before a0 Z = true) (hy : y.cls ≠ "java/lang/invoke/MethodHandle" ∧ y.cls ≠ "java/lang/invoke/VarHandle") : (Jvm.Cond.selects y.cls y y).before args s = true := by
  obtain ⟨c, r, m, -, -, k2, -, k, hk, hki⟩ := Cond.selects_spec (mvT hZ hs (args := args))
  have hc := findClass_of_methodNamed k2
  rw [he] at hc
  exact Jvm.Stand.selects_self_of_private hc hk hki (Cond.privateMethod_at (mvP hZ hp (args := #[]))) (mvT hZ hi) hy
theorem own_byte (x : Int32) : x.toInt8.toInt32.toInt8.toInt32 = x.toInt8.toInt32 := by simp
theorem own_len {s : State} {args : Array Value} {t : Term} {a : Addr} {cl : Cell} {ty : FieldType} {n : Int32} (ev : t.eval args s none [] s = some (.ref a)) (A : Arr s s.heap a cl ty) (h : (Jvm.Cond.eq (Term.length t) (Term.int n)).value args s none s [] = some true) : cl.slots.size < 2 ^ 31 ∧ cl.slots.size.toInt32 = n := by
  have e := eqv_i (Term.int_eval _) h
  have ha := A.fin (Vm.Alike.refl _)
  by_cases q : cl.slots.size < 2 ^ 31
  · refine ⟨q, ?_⟩
    rw [len_f ev ha q] at e
    cases e; rfl
  · simp [Term.eval, ev, ha, q] at e
theorem own_eqr {s : State} {args : Array Value} {t u : Term} {y : Addr} (hu : u.eval args s none [] s = some (.ref y)) (h : (Jvm.Cond.eq t u).value args s none s [] = some true) : t.eval args s none [] s = some (.ref y) := by
  obtain ⟨x, y', e1, e2, k1, k2⟩ := cmp_v (Or.inl h)
  cases hu.symm.trans e2
  have hx : x.isRef = true := k2.2
  exact e1.trans (congrArg some (gotT (eq_R e1 hu hx rfl) h))
theorem own_sta_idx {s : State} {args : Array Value} {C n d : String} {v : Value} (h : (Term.static C n d).eval args s none [] s = some v) {idx : List Nat} : (Term.static C n d).eval args s none idx s = some v := h
theorem own_idx {s : State} {args : Array Value} {j : Int32} (hj : ¬ j < 0) : (Term.sub (Term.index 0) (Term.int 128)).eval args s none [j.toNatClampNeg] s = some (.int (j - (128 : Int32))) := by
  have e := idx_at (args := args) (s := s) (first := s) (o := none) hj
  show (do let x ← (Term.index 0).eval args s none [j.toNatClampNeg] s; let y ← (Term.int 128).eval args s none [j.toNatClampNeg] s; _) = _
  rw [e]; rfl
theorem own_plus1 {s : State} {args : Array Value} {t : Term} {a : Addr} {cl : Cell} {n : Int32} (hf : Fit s) (et : ∀ idx, t.eval args s none idx s = some (.ref a)) (A : Arr s s.heap a cl .int) (sz : cl.slots.size < 2 ^ 31) (z : cl.slots.size.toInt32 = n)
    (h : (Jvm.Cond.all t (.eq (.op1 .i2l (.elem t (.index 0))) (.op2 .ladd (.op1 .i2l (.index 0)) (.long 1)))).value args s none s [] = some true) (i : Nat) (k : Int32) (hi : i < n.toNatClampNeg) (hk : k.toInt64 = i.toInt32.toInt64 + 1) : cl.slots[i]? = some (.int k) := by
  have S : cl.slots.size = n.toNatClampNeg := by rw [← z]; simp only [Int32.toNatClampNeg, len_toInt sz]; rfl
  have hi' : i < cl.slots.size := S ▸ hi
  have e1 : (Nat.toInt32 i).toNatClampNeg = i := by simp only [Int32.toNatClampNeg, len_toInt (Nat.lt_trans hi' sz)]; rfl
  have hin : ¬ (i.toInt32 < 0 ∨ cl.slots.size ≤ i.toInt32.toNatClampNeg) := idx_in hi' sz
  have nn : ¬ i.toInt32 < 0 := fun q => hin (Or.inl q)
  have u := Cond.all_elim (et []) (A.fin (Vm.Alike.refl _)) h i hi'
  obtain ⟨v, hv, hfv⟩ := elem_fit hf A hin
  obtain ⟨x, rfl⟩ := fit_I hfv (Or.inl rfl)
  have ix : (Term.index 0).eval args s none [i] s = some (.int i.toInt32) := by
    have := idx_at (args := args) (s := s) (first := s) (o := none) nn
    rwa [e1] at this
  have el : (Term.elem t (.index 0)).eval args s none [i] s = some (.int x) := (elem_f (et _) ix (A.fin (Vm.Alike.refl _)) nn).trans hv
  have l1 := i2l_at el
  have l2 : (Term.op2 .ladd (.op1 .i2l (.index 0)) (.long 1)).eval args s none [i] s = some (.long (i.toInt32.toInt64 + 1)) := by
    rw [op2_f (i2l_at ix) (long_at 1)]; rfl
  have e := gotT (eq_L l1 l2) u
  have ex : x = k := by
    apply Int32.toInt_inj.mp
    have q := congrArg Int64.toInt (e.trans hk.symm)
    rwa [Int32.toInt_toInt64, Int32.toInt_toInt64] at q
  rw [e1] at hv
  rw [hv, ex]
def Wd (Z : State) (w_n0 : Addr) (w_n2 : Addr) (w_n3 : Addr) (w_n1 : Addr) : Prop := Sta Z Z.heap "com/example/usher/usher/server/Role$Mode" "STANDALONE" "Lcom/example/usher/usher/server/Role$Mode;" (.ref w_n0) ∧ Exa Z Z.heap w_n0 "com/example/usher/usher/server/Role$Mode" ∧ Sta Z Z.heap "com/example/usher/usher/server/Role$Mode" "LOOKING" "Lcom/example/usher/usher/server/Role$Mode;" (.ref w_n2) ∧ Exa Z Z.heap w_n2 "com/example/usher/usher/server/Role$Mode" ∧ Sta Z Z.heap "com/example/usher/usher/server/Role$Mode" "LEADER" "Lcom/example/usher/usher/server/Role$Mode;" (.ref w_n3) ∧ Exa Z Z.heap w_n3 "com/example/usher/usher/server/Role$Mode" ∧ Sta Z Z.heap "com/example/usher/usher/server/Role$Mode" "FOLLOWER" "Lcom/example/usher/usher/server/Role$Mode;" (.ref w_n1) ∧ Exa Z Z.heap w_n1 "com/example/usher/usher/server/Role$Mode" ∧ Fld Z Z.heap w_n0 "java/lang/Enum" "ordinal" "I" (.int (0 : Int32)) ∧ Fld Z Z.heap w_n2 "java/lang/Enum" "ordinal" "I" (.int (3 : Int32)) ∧ Fld Z Z.heap w_n3 "java/lang/Enum" "ordinal" "I" (.int (1 : Int32)) ∧ Fld Z Z.heap w_n1 "java/lang/Enum" "ordinal" "I" (.int (2 : Int32))
set_option maxRecDepth 65536 in
set_option maxHeartbeats 4000000 in
theorem wd_start {s : State} {a0 : Array Value} (hfit : Fit s) (hw : ∀ d ∈ tables_1, d.before a0 s = true) (hn : narrow_1.value a0 s none s [] = some true) : ∃ (w_n0 : Addr) (w_n2 : Addr) (w_n3 : Addr) (w_n1 : Addr), Wd s w_n0 w_n2 w_n3 w_n1 := by
  obtain ⟨q0, hn0⟩ := and_e hn
  obtain ⟨q1, hn1⟩ := and_e hn0
  obtain ⟨q2, hn2⟩ := and_e hn1
  obtain ⟨q3, hn3⟩ := and_e hn2
  obtain ⟨q4, hn4⟩ := and_e hn3
  obtain ⟨q5, hn5⟩ := and_e hn4
  obtain ⟨q6, hn6⟩ := and_e hn5
  have q7 := hn6
  obtain ⟨w_n0, ew_n0⟩ := exa_v q0
  have S_n0 := Sta.start ew_n0 (Or.inr ⟨(hw _ (List.mem_of_getElem? (i := 1) rfl)), (hw _ (List.mem_of_getElem? (i := 2) rfl))⟩)
  have E_n0 := Exa.start ew_n0 q0
  obtain ⟨w_n2, ew_n2⟩ := exa_v q1
  have S_n2 := Sta.start ew_n2 (Or.inr ⟨(hw _ (List.mem_of_getElem? (i := 1) rfl)), (hw _ (List.mem_of_getElem? (i := 27) rfl))⟩)
  have E_n2 := Exa.start ew_n2 q1
  obtain ⟨w_n3, ew_n3⟩ := exa_v q4
  have S_n3 := Sta.start ew_n3 (Or.inr ⟨(hw _ (List.mem_of_getElem? (i := 1) rfl)), (hw _ (List.mem_of_getElem? (i := 29) rfl))⟩)
  have E_n3 := Exa.start ew_n3 q4
  obtain ⟨w_n1, ew_n1⟩ := exa_v q6
  have S_n1 := Sta.start ew_n1 (Or.inr ⟨(hw _ (List.mem_of_getElem? (i := 1) rfl)), (hw _ (List.mem_of_getElem? (i := 31) rfl))⟩)
  have E_n1 := Exa.start ew_n1 q6
  have F_n0_ordinal := Fld.start ((fld_at ew_n0).symm.trans (eqv_i (Term.int_eval _) q2))
  have F_n2_ordinal := Fld.start ((fld_at ew_n2).symm.trans (eqv_i (Term.int_eval _) q3))
  have F_n3_ordinal := Fld.start ((fld_at ew_n3).symm.trans (eqv_i (Term.int_eval _) q5))
  have F_n1_ordinal := Fld.start ((fld_at ew_n1).symm.trans (eqv_i (Term.int_eval _) q7))
  exact ⟨w_n0, w_n2, w_n3, w_n1, S_n0, E_n0, S_n2, E_n2, S_n3, E_n3, S_n1, E_n1, F_n0_ordinal, F_n2_ordinal, F_n3_ordinal, F_n1_ordinal⟩
theorem d2_0 : decode jdk_30_method_1_code 0 = .ok (.aload_n 0, 1) := by decide +kernel
theorem d2_1 : decode jdk_30_method_1_code 1 = .ok (.invokespecial 1, 3) := by decide +kernel
theorem d2_4 : decode jdk_30_method_1_code 4 = .ok (.return_, 1) := by decide +kernel
theorem ef_2_0 (m : MethodId) (x0 : Addr) : entryFrame m #[(.ref x0)] 1 = mkF m 0 #[.val (.ref x0)] [] := by first | (simp [entryFrame, mkF, argsToLocals, Value.category]; done) | rfl
theorem pn_2 : plainName "java/lang/Record" = true := by first | (simp [plainName, overriddenIn]; done) | decide +kernel
set_option maxRecDepth 65536 in
set_option maxHeartbeats 40000000 in
theorem rm2 (l : Launch) (Z : State) (a0 : Array Value) (hw : ∀ d ∈ tables_1, d.before a0 Z = true) (ws : List Jvm.Cond) {w_n0 : Addr} {w_n2 : Addr} {w_n3 : Addr} {w_n1 : Addr} (W : Wd Z w_n0 w_n2 w_n3 w_n1) (a1 : Addr) (h0 : Heap) (n0 : Nat) (O0 : Old Z n0 h0) :
    MetFree l (⟨"java/lang/Record", "<init>", "()V"⟩ : MethodName) (head1 (Jvm.Cond.code (⟨"java/lang/Record", "<init>", "()V"⟩ : MethodName) jdk_30_method_1_code 1 none :: ws) ({ frames := 1, cells := 0, slots := 0, locals := 12 } : Room)) (fun a U => a = #[(.ref a1)] ∧ Z.Warmed39 U.vm ∧ U.heap = h0) (fun _ _ _ _ _ => True) (fun _ U o U' => ∃ v L, o = .returned v ∧ QP (none) h0 n0 v U'.heap L ∧ FrameEnd U o U' L ({ frames := 1, cells := 0, slots := 0, locals := 12 } : Room).cells ({ frames := 1, cells := 0, slots := 0, locals := 12 } : Room).slots) := by
  have W' := W; obtain ⟨S_n0, E_n0, S_n2, E_n2, S_n3, E_n3, S_n1, E_n1, F_n0_ordinal, F_n2_ordinal, F_n3_ordinal, F_n1_ordinal⟩ := W'
  refine MetFree.of_bodySF (plainFor_of_name pn_2) hisR ?_
  intro p e s m args below meth c s₁ Bd hml0 hP hK
  obtain ⟨rfl, hZ, hh⟩ := hP
  have hx := Bd.exec
  have hby := Bd.bytes
  have hml : c.maxLocals = 1 := hml0
  have hown : s.vm.findClass "java/lang/Record" = some m.cls := findClass_of_methodNamed Bd.named
  have hnm := (name_of_methodNamed Bd.named Bd.method).1
  have X0 : Stand p l e ({ frames := 1, cells := 0, slots := 0, locals := 12 } : Room) s m #[(.ref a1)] below meth c s₁ [] 0 0 := Stand.of_body Bd
  have e0 : s₁.heap = h0 := by rw [← hh, Bd.state]; rfl
  have N0 := Fr.nil n0
  have pre0 : ∀ t, Steps p.tables e below (s₁.setTop (mkF m 0 #[.val (.ref a1)] [])) t → Steps p.tables e below (s₁.setTop (entryFrame m #[(.ref a1)] 1)) t := fun t k => castTop (ef_2_0 m a1) k
  obtain ⟨T1, X1, e1, st1⟩ := initO X0 hx hZ hown (hw _ (List.mem_of_getElem? (i := 14) rfl)) (hw _ (List.mem_of_getElem? (i := 15) rfl)) (hw _ (List.mem_of_getElem? (i := 16) rfl)) e0 (g := (mkF m 1 #[.val (.ref a1)] [(.ref a1)])) rfl (by rw [hml]; rfl) rfl (hb hby d2_1) (by decide) (W := 0) (by show 2 * 0 + _ ≤ _; exact Nat.le_of_eq rfl) (by decide)
  obtain ⟨fs, hr, hrun, hended, hW, hsame⟩ := X1.leave (v := none) (fun _ => rfl)
  refine ⟨_, _, pre0 _ ?_, hrun, hended, _, _, rfl, ?_, ⟨_, rfl⟩, hW, hsame.mono (by decide) (by decide)⟩
  · show Steps p.tables e below (s₁.setTop (mkF m 0 #[.val (.ref a1)] [])) _
    refine XS.aloadN X0.here hx rfl (hb hby d2_0) rfl rfl ?_
    show Steps p.tables e below (s₁.setTop (mkF m 1 #[.val (.ref a1)] [(.ref a1)])) _
    refine st1 _ ?_
    show Steps p.tables e below (T1.setTop (mkF m 4 #[.val (.ref a1)] [])) _
    exact X1.returnOut hx Bd.returns (hb hby d2_4) hr
  · show QP (none) h0 n0 _ T1.heap _
    rw [e1]
    exact ⟨rfl, N0, rfl⟩
theorem d1_0 : decode prog_10_method_1_code 0 = .ok (.aload_n 0, 1) := by decide +kernel
theorem d1_1 : decode prog_10_method_1_code 1 = .ok (.invokespecial 1, 3) := by decide +kernel
theorem d1_4 : decode prog_10_method_1_code 4 = .ok (.aload_n 0, 1) := by decide +kernel
theorem d1_5 : decode prog_10_method_1_code 5 = .ok (.aload_n 1, 1) := by decide +kernel
theorem d1_6 : decode prog_10_method_1_code 6 = .ok (.putfield 7, 3) := by decide +kernel
theorem d1_9 : decode prog_10_method_1_code 9 = .ok (.aload_n 0, 1) := by decide +kernel
theorem d1_10 : decode prog_10_method_1_code 10 = .ok (.lload_n 2, 1) := by decide +kernel
theorem d1_11 : decode prog_10_method_1_code 11 = .ok (.putfield 13, 3) := by decide +kernel
theorem d1_14 : decode prog_10_method_1_code 14 = .ok (.return_, 1) := by decide +kernel
theorem pd_0 : parseMethodDescriptor "()V" = some ⟨[], none⟩ := by decide +kernel
theorem ef_1_1 (m : MethodId) (x0 : Addr) (x1 : Addr) (x2 : Int64) : entryFrame m #[(.ref x0), (.ref x1), (.long x2)] 4 = mkF m 0 #[.val (.ref x0), .val (.ref x1), .val (.long x2), .second] [] := by first | (simp [entryFrame, mkF, argsToLocals, Value.category]; done) | rfl
theorem pn_1 : plainName "com/example/usher/usher/server/Role" = true := by first | (simp [plainName, overriddenIn]; done) | decide +kernel
set_option maxRecDepth 65536 in
set_option maxHeartbeats 40000000 in
theorem rm1_STANDALONE (l : Launch) (Z : State) (a0 : Array Value) (hw : ∀ d ∈ tables_1, d.before a0 Z = true) (ws : List Jvm.Cond) {w_n0 : Addr} {w_n2 : Addr} {w_n3 : Addr} {w_n1 : Addr} (W : Wd Z w_n0 w_n2 w_n3 w_n1) (a1 : Addr) (q3 : Int64) (h0 : Heap) (n0 : Nat) (O0 : Old Z n0 h0) (g_a1 : n0 ≤ a1) (hf0 : Exa Z h0 a1 "com/example/usher/usher/server/Role") (hf1 : Fld Z h0 a1 "com/example/usher/usher/server/Role" "mode" "Lcom/example/usher/usher/server/Role$Mode;" .null) (hf2 : Fld Z h0 a1 "com/example/usher/usher/server/Role" "epoch" "J" (.long (0 : Int64))) :
    MetFree l (⟨"com/example/usher/usher/server/Role", "<init>", "(Lcom/example/usher/usher/server/Role$Mode;J)V"⟩ : MethodName) (head1 (Jvm.Cond.code (⟨"com/example/usher/usher/server/Role", "<init>", "(Lcom/example/usher/usher/server/Role$Mode;J)V"⟩ : MethodName) prog_10_method_1_code 4 none :: ws) ({ frames := 2, cells := 0, slots := 0, locals := 24 } : Room)) (fun a U => a = #[(.ref a1), (.ref w_n0), (.long q3)] ∧ Z.Warmed39 U.vm ∧ U.heap = h0) (fun _ _ _ _ _ => True) (fun _ U o U' => ∃ v L, o = .returned v ∧ QW (fun v h => v = none ∧ Keep h0 h [a1] ∧ Exa Z h a1 "com/example/usher/usher/server/Role" ∧ Fld Z h a1 "com/example/usher/usher/server/Role" "mode" "Lcom/example/usher/usher/server/Role$Mode;" (.ref w_n0) ∧ Fld Z h a1 "com/example/usher/usher/server/Role" "epoch" "J" (.long q3)) n0 v U'.heap L ∧ FrameEnd U o U' L ({ frames := 2, cells := 0, slots := 0, locals := 24 } : Room).cells ({ frames := 2, cells := 0, slots := 0, locals := 24 } : Room).slots) := by
  have W' := W; obtain ⟨S_n0, E_n0, S_n2, E_n2, S_n3, E_n3, S_n1, E_n1, F_n0_ordinal, F_n2_ordinal, F_n3_ordinal, F_n1_ordinal⟩ := W'
  refine MetFree.of_bodySF (plainFor_of_name pn_1) hisR ?_
  intro p e s m args below meth c s₁ Bd hml0 hP hK
  obtain ⟨rfl, hZ, hh⟩ := hP
  have hx := Bd.exec
  have hby := Bd.bytes
  have hml : c.maxLocals = 4 := hml0
  have hown : s.vm.findClass "com/example/usher/usher/server/Role" = some m.cls := findClass_of_methodNamed Bd.named
  have hnm := (name_of_methodNamed Bd.named Bd.method).1
  have X0 : Stand p l e ({ frames := 2, cells := 0, slots := 0, locals := 24 } : Room) s m #[(.ref a1), (.ref w_n0), (.long q3)] below meth c s₁ [] 0 0 := Stand.of_body Bd
  have e0 : s₁.heap = h0 := by rw [← hh, Bd.state]; rfl
  have N0 := Fr.nil n0
  have pre0 : ∀ t, Steps p.tables e below (s₁.setTop (mkF m 0 #[.val (.ref a1), .val (.ref w_n0), .val (.long q3), .second] [])) t → Steps p.tables e below (s₁.setTop (entryFrame m #[(.ref a1), (.ref w_n0), (.long q3)] 4)) t := fun t k => castTop (ef_1_1 m a1 w_n0 q3) k
  obtain ⟨_, _, ⟨T1, L1, k1, n1⟩, -, X1, ⟨Lc1, hQ1, l1, y1, z1⟩, st1⟩ := X0.specialBack hx (y := (⟨"java/lang/Record", "<init>", "()V"⟩ : MethodName)) rfl hown (mvT hZ (hw _ (List.mem_of_getElem? (i := 9) rfl))) (mvT hZ (hw _ (List.mem_of_getElem? (i := 10) rfl))) (mvT hZ (hw _ (List.mem_of_getElem? (i := 13) rfl))) (by decide) (backOf (W := 0) (rm2 l Z a0 hw [] W a1 h0 n0 O0 ) hZ (hw _ (List.mem_of_getElem? (i := 13) rfl)) (hw _ (List.mem_of_getElem? (i := 12) rfl)) (by decide) (by decide)) (g := (mkF m 1 #[.val (.ref a1), .val (.ref w_n0), .val (.long q3), .second] [(.ref a1)])) rfl (by rw [hml]; rfl) (Steps.refl _) (a := a1) (argsL := []) (rest := []) (lenOf pd_0 rfl) rfl (by show 2 * 0 + _ ≤ _; exact Nat.le_of_eq rfl) (hb hby d1_1) (fun _ _ => ⟨rfl, e0, (by decide : 0 + 0 ≤ _), (by decide : 0 + 0 ≤ _)⟩)
  dsimp only [Pt.U, Pt.locs, Pt.cells, Pt.slots] at X1 l1 y1 z1 st1 hQ1
  subst l1 y1 z1
  obtain ⟨rfl, N1q, e1⟩ := hQ1
  have N1 := Fr.app N0 N1q
  obtain ⟨T2, h2, X2, e2, W2, st2⟩ := putF X1 hx hZ hown (host := "") (Or.inl (hw _ (List.mem_of_getElem? (i := 17) rfl))) Via.refl e1 hf1 hf0 (Or.inr ⟨(hw _ (List.mem_of_getElem? (i := 18) rfl)), rfl, hnm⟩) (hw _ (List.mem_of_getElem? (i := 4) rfl)) (ty := (.object "com/example/usher/usher/server/Role$Mode")) (by decide) rfl rfl (g := (mkF m 6 #[.val (.ref a1), .val (.ref w_n0), .val (.long q3), .second] [(.ref w_n0), (.ref a1)])) rfl rfl (hb hby d1_6)
  have fw2 : Fld Z h2 a1 "com/example/usher/usher/server/Role" "mode" "Lcom/example/usher/usher/server/Role$Mode;" (.ref w_n0) := (hf1).same W2
  have f2_0 : Exa Z h2 a1 "com/example/usher/usher/server/Role" := (hf0).wr W2
  have f2_1 : Fld Z h2 a1 "com/example/usher/usher/server/Role" "epoch" "J" (.long (0 : Int64)) := (hf2).other W2 (Or.inr (slot_ne (Or.inr (hw _ (List.mem_of_getElem? (i := 20) rfl))) (Or.inr (hw _ (List.mem_of_getElem? (i := 18) rfl))) (by decide) (t := .long) (t' := (.object "com/example/usher/usher/server/Role$Mode")) (by decide) (by decide)))
  have O2 := O0.wr W2 g_a1
  have N2 := Fr.snoc X2 N1 g_a1
  have K2 : Keep h0 h2 [a1] := (Keep.refl h0 [a1]).wr W2 (Or.inl (List.mem_of_getElem? (i := 0) rfl))
  obtain ⟨T3, h3, X3, e3, W3, st3⟩ := putF X2 hx hZ hown (host := "") (Or.inl (hw _ (List.mem_of_getElem? (i := 19) rfl))) Via.refl e2 f2_1 f2_0 (Or.inr ⟨(hw _ (List.mem_of_getElem? (i := 20) rfl)), rfl, hnm⟩) (hw _ (List.mem_of_getElem? (i := 4) rfl)) (ty := .long) (by decide) rfl rfl (g := (mkF m 11 #[.val (.ref a1), .val (.ref w_n0), .val (.long q3), .second] [(.long q3), (.ref a1)])) rfl rfl (hb hby d1_11)
  have fw3 : Fld Z h3 a1 "com/example/usher/usher/server/Role" "epoch" "J" (.long q3) := (f2_1).same W3
  have f3_0 : Exa Z h3 a1 "com/example/usher/usher/server/Role" := (f2_0).wr W3
  have f3_1 : Fld Z h3 a1 "com/example/usher/usher/server/Role" "mode" "Lcom/example/usher/usher/server/Role$Mode;" (.ref w_n0) := (fw2).other W3 (Or.inr (slot_ne (Or.inr (hw _ (List.mem_of_getElem? (i := 18) rfl))) (Or.inr (hw _ (List.mem_of_getElem? (i := 20) rfl))) (by decide) (t := (.object "com/example/usher/usher/server/Role$Mode")) (t' := .long) (by decide) (by decide)))
  have O3 := O2.wr W3 g_a1
  have N3 := Fr.snoc X3 N2 g_a1
  have K3 : Keep h0 h3 [a1] := K2.wr W3 (Or.inl (List.mem_of_getElem? (i := 0) rfl))
  obtain ⟨fs, hr, hrun, hended, hW, hsame⟩ := X3.leave (v := none) (fun _ => rfl)
  refine ⟨_, _, pre0 _ ?_, hrun, hended, _, _, rfl, ?_, ⟨_, rfl⟩, hW, hsame.mono (by decide) (by decide)⟩
  · show Steps p.tables e below (s₁.setTop (mkF m 0 #[.val (.ref a1), .val (.ref w_n0), .val (.long q3), .second] [])) _
    refine XS.aloadN X0.here hx rfl (hb hby d1_0) rfl rfl ?_
    show Steps p.tables e below (s₁.setTop (mkF m 1 #[.val (.ref a1), .val (.ref w_n0), .val (.long q3), .second] [(.ref a1)])) _
    refine st1.trans ?_
    show Steps p.tables e below (T1.setTop (mkF m 4 #[.val (.ref a1), .val (.ref w_n0), .val (.long q3), .second] [])) _
    refine XS.aloadN X1.here hx rfl (hb hby d1_4) rfl rfl ?_
    show Steps p.tables e below (T1.setTop (mkF m 5 #[.val (.ref a1), .val (.ref w_n0), .val (.long q3), .second] [(.ref a1)])) _
    refine XS.aloadN X1.here hx rfl (hb hby d1_5) rfl rfl ?_
    show Steps p.tables e below (T1.setTop (mkF m 6 #[.val (.ref a1), .val (.ref w_n0), .val (.long q3), .second] [(.ref w_n0), (.ref a1)])) _
    refine st2 _ ?_
    show Steps p.tables e below (T2.setTop (mkF m 9 #[.val (.ref a1), .val (.ref w_n0), .val (.long q3), .second] [])) _
    refine XS.aloadN X2.here hx rfl (hb hby d1_9) rfl rfl ?_
    show Steps p.tables e below (T2.setTop (mkF m 10 #[.val (.ref a1), .val (.ref w_n0), .val (.long q3), .second] [(.ref a1)])) _
    refine XS.lloadN X2.here hx rfl (hb hby d1_10) rfl ?_
    show Steps p.tables e below (T2.setTop (mkF m 11 #[.val (.ref a1), .val (.ref w_n0), .val (.long q3), .second] [(.long q3), (.ref a1)])) _
    refine st3 _ ?_
    show Steps p.tables e below (T3.setTop (mkF m 14 #[.val (.ref a1), .val (.ref w_n0), .val (.long q3), .second] [])) _
    exact X3.returnOut hx Bd.returns (hb hby d1_14) hr
  · show QW (fun v h => v = none ∧ Keep h0 h [a1] ∧ Exa Z h a1 "com/example/usher/usher/server/Role" ∧ Fld Z h a1 "com/example/usher/usher/server/Role" "mode" "Lcom/example/usher/usher/server/Role$Mode;" (.ref w_n0) ∧ Fld Z h a1 "com/example/usher/usher/server/Role" "epoch" "J" (.long q3)) n0 _ T3.heap _
    rw [e3]
    exact ⟨N3, ⟨rfl, K3, f3_0, f3_1, fw3⟩⟩
theorem d4_0 : decode prog_10_method_2_code 0 = .ok (.aload_n 0, 1) := by decide +kernel
theorem d4_1 : decode prog_10_method_2_code 1 = .ok (.getfield 7, 3) := by decide +kernel
theorem d4_4 : decode prog_10_method_2_code 4 = .ok (.getstatic 17, 3) := by decide +kernel
theorem d4_7 : decode prog_10_method_2_code 7 = .ok (.if_acmp .eq 7, 3) := by decide +kernel
theorem d4_10 : decode prog_10_method_2_code 10 = .ok (.iconst 1, 1) := by decide +kernel
theorem d4_11 : decode prog_10_method_2_code 11 = .ok (.goto 4, 3) := by decide +kernel
theorem d4_15 : decode prog_10_method_2_code 15 = .ok (.ireturn, 1) := by decide +kernel
theorem ef_4_2 (m : MethodId) (x0 : Addr) : entryFrame m #[(.ref x0)] 1 = mkF m 0 #[.val (.ref x0)] [] := by first | (simp [entryFrame, mkF, argsToLocals, Value.category]; done) | rfl
theorem pn_4 : plainName "com/example/usher/usher/server/Role" = true := by first | (simp [plainName, overriddenIn]; done) | decide +kernel
set_option maxRecDepth 65536 in
set_option maxHeartbeats 40000000 in
theorem rm4_STANDALONE (l : Launch) (Z : State) (a0 : Array Value) (hw : ∀ d ∈ tables_1, d.before a0 Z = true) (ws : List Jvm.Cond) {w_n0 : Addr} {w_n2 : Addr} {w_n3 : Addr} {w_n1 : Addr} (W : Wd Z w_n0 w_n2 w_n3 w_n1) (a1 : Addr) (h0 : Heap) (n0 : Nat) (O0 : Old Z n0 h0) (hf0 : Fld Z h0 a1 "com/example/usher/usher/server/Role" "mode" "Lcom/example/usher/usher/server/Role$Mode;" (.ref w_n0)) :
    MetFree l (⟨"com/example/usher/usher/server/Role", "servesSessions", "()Z"⟩ : MethodName) (head1 (Jvm.Cond.code (⟨"com/example/usher/usher/server/Role", "servesSessions", "()Z"⟩ : MethodName) prog_10_method_2_code 1 (some .boolean) :: ws) ({ frames := 0, cells := 0, slots := 0, locals := 0 } : Room)) (fun a U => a = #[(.ref a1)] ∧ Z.Warmed39 U.vm ∧ U.heap = h0) (fun _ _ _ _ _ => True) (fun _ U o U' => ∃ v L, o = .returned v ∧ QP (some (.int (1 : Int32))) h0 n0 v U'.heap L ∧ FrameEnd U o U' L ({ frames := 0, cells := 0, slots := 0, locals := 0 } : Room).cells ({ frames := 0, cells := 0, slots := 0, locals := 0 } : Room).slots) := by
  have W' := W; obtain ⟨S_n0, E_n0, S_n2, E_n2, S_n3, E_n3, S_n1, E_n1, F_n0_ordinal, F_n2_ordinal, F_n3_ordinal, F_n1_ordinal⟩ := W'
  refine MetFree.of_bodySF (plainFor_of_name pn_4) hisR ?_
  intro p e s m args below meth c s₁ Bd hml0 hP hK
  obtain ⟨rfl, hZ, hh⟩ := hP
  have hx := Bd.exec
  have hby := Bd.bytes
  have hml : c.maxLocals = 1 := hml0
  have hown : s.vm.findClass "com/example/usher/usher/server/Role" = some m.cls := findClass_of_methodNamed Bd.named
  have hnm := (name_of_methodNamed Bd.named Bd.method).1
  have X0 : Stand p l e ({ frames := 0, cells := 0, slots := 0, locals := 0 } : Room) s m #[(.ref a1)] below meth c s₁ [] 0 0 := Stand.of_body Bd
  have e0 : s₁.heap = h0 := by rw [← hh, Bd.state]; rfl
  have N0 := Fr.nil n0
  have pre0 : ∀ t, Steps p.tables e below (s₁.setTop (mkF m 0 #[.val (.ref a1)] [])) t → Steps p.tables e below (s₁.setTop (entryFrame m #[(.ref a1)] 1)) t := fun t k => castTop (ef_4_2 m a1) k
  obtain ⟨T1, X1, e1, st1⟩ := getF X0 hx hZ hown (host := "") (Or.inl (hw _ (List.mem_of_getElem? (i := 17) rfl))) Via.refl e0 hf0 (g := (mkF m 1 #[.val (.ref a1)] [(.ref a1)])) rfl rfl (hb hby d4_1)
  obtain ⟨T2, X2, e2, st2⟩ := getS2 X1 hx hZ hown (host := "") (Or.inl (hw _ (List.mem_of_getElem? (i := 26) rfl))) Via.refl e1 (S_n2.ext O0.2) (g := (mkF m 4 #[.val (.ref a1)] [(.ref w_n0)])) rfl (hb hby d4_4)
  obtain ⟨fs, hr, hrun, hended, hW, hsame⟩ := X2.leave (v := some (.int (1 : Int32))) (fun h => by rw [Bd.returns] at h; cases h)
  refine ⟨_, _, pre0 _ ?_, hrun, hended, _, _, rfl, ?_, ⟨_, rfl⟩, hW, hsame.mono (by decide) (by decide)⟩
  · show Steps p.tables e below (s₁.setTop (mkF m 0 #[.val (.ref a1)] [])) _
    refine XS.aloadN X0.here hx rfl (hb hby d4_0) rfl rfl ?_
    show Steps p.tables e below (s₁.setTop (mkF m 1 #[.val (.ref a1)] [(.ref a1)])) _
    refine st1 _ ?_
    show Steps p.tables e below (T1.setTop (mkF m 4 #[.val (.ref a1)] [(.ref w_n0)])) _
    refine st2 _ ?_
    show Steps p.tables e below (T2.setTop (mkF m 7 #[.val (.ref a1)] [(.ref w_n2), (.ref w_n0)])) _
    refine Jvm.RoadKit.acmp (g := (mkF m 7 #[.val (.ref a1)] [(.ref w_n2), (.ref w_n0)])) X2 hx rfl rfl rfl (pc0 := 7) (pc' := 10) (same := false) rfl (hb hby d4_7) rfl (decide_eq_false fun q => (Fld.ne F_n0_ordinal F_n2_ordinal (fun q => absurd (Value.int.inj q) (by decide))) (Value.ref.inj q)) (by decide) (by decide) ?_
    show Steps p.tables e below (T2.setTop (mkF m 10 #[.val (.ref a1)] [])) _
    refine XS.iconst X2.here hx rfl (hb hby d4_10) ?_
    show Steps p.tables e below (T2.setTop (mkF m 11 #[.val (.ref a1)] [(.int (1 : Int32))])) _
    refine XS.goto X2.here hx rfl (pc0 := 11) (pc' := 15) rfl (hb hby d4_11) (by decide) (by decide) ?_
    show Steps p.tables e below (T2.setTop (mkF m 15 #[.val (.ref a1)] [(.int (1 : Int32))])) _
    exact retN X2 hx (t := .boolean) Bd.returns (by simp) (hb hby d4_15) hr
  · show QP (some (.int (1 : Int32))) h0 n0 _ T2.heap _
    rw [e2]
    exact ⟨rfl, N0, rfl⟩
set_option maxRecDepth 65536 in
set_option maxHeartbeats 40000000 in
theorem rm1_LOOKING (l : Launch) (Z : State) (a0 : Array Value) (hw : ∀ d ∈ tables_1, d.before a0 Z = true) (ws : List Jvm.Cond) {w_n0 : Addr} {w_n2 : Addr} {w_n3 : Addr} {w_n1 : Addr} (W : Wd Z w_n0 w_n2 w_n3 w_n1) (a1 : Addr) (q3 : Int64) (h0 : Heap) (n0 : Nat) (O0 : Old Z n0 h0) (g_a1 : n0 ≤ a1) (hf0 : Exa Z h0 a1 "com/example/usher/usher/server/Role") (hf1 : Fld Z h0 a1 "com/example/usher/usher/server/Role" "mode" "Lcom/example/usher/usher/server/Role$Mode;" .null) (hf2 : Fld Z h0 a1 "com/example/usher/usher/server/Role" "epoch" "J" (.long (0 : Int64))) :
    MetFree l (⟨"com/example/usher/usher/server/Role", "<init>", "(Lcom/example/usher/usher/server/Role$Mode;J)V"⟩ : MethodName) (head1 (Jvm.Cond.code (⟨"com/example/usher/usher/server/Role", "<init>", "(Lcom/example/usher/usher/server/Role$Mode;J)V"⟩ : MethodName) prog_10_method_1_code 4 none :: ws) ({ frames := 2, cells := 0, slots := 0, locals := 24 } : Room)) (fun a U => a = #[(.ref a1), (.ref w_n2), (.long q3)] ∧ Z.Warmed39 U.vm ∧ U.heap = h0) (fun _ _ _ _ _ => True) (fun _ U o U' => ∃ v L, o = .returned v ∧ QW (fun v h => v = none ∧ Keep h0 h [a1] ∧ Exa Z h a1 "com/example/usher/usher/server/Role" ∧ Fld Z h a1 "com/example/usher/usher/server/Role" "mode" "Lcom/example/usher/usher/server/Role$Mode;" (.ref w_n2) ∧ Fld Z h a1 "com/example/usher/usher/server/Role" "epoch" "J" (.long q3)) n0 v U'.heap L ∧ FrameEnd U o U' L ({ frames := 2, cells := 0, slots := 0, locals := 24 } : Room).cells ({ frames := 2, cells := 0, slots := 0, locals := 24 } : Room).slots) := by
  have W' := W; obtain ⟨S_n0, E_n0, S_n2, E_n2, S_n3, E_n3, S_n1, E_n1, F_n0_ordinal, F_n2_ordinal, F_n3_ordinal, F_n1_ordinal⟩ := W'
  refine MetFree.of_bodySF (plainFor_of_name pn_1) hisR ?_
  intro p e s m args below meth c s₁ Bd hml0 hP hK
  obtain ⟨rfl, hZ, hh⟩ := hP
  have hx := Bd.exec
  have hby := Bd.bytes
  have hml : c.maxLocals = 4 := hml0
  have hown : s.vm.findClass "com/example/usher/usher/server/Role" = some m.cls := findClass_of_methodNamed Bd.named
  have hnm := (name_of_methodNamed Bd.named Bd.method).1
  have X0 : Stand p l e ({ frames := 2, cells := 0, slots := 0, locals := 24 } : Room) s m #[(.ref a1), (.ref w_n2), (.long q3)] below meth c s₁ [] 0 0 := Stand.of_body Bd
  have e0 : s₁.heap = h0 := by rw [← hh, Bd.state]; rfl
  have N0 := Fr.nil n0
  have pre0 : ∀ t, Steps p.tables e below (s₁.setTop (mkF m 0 #[.val (.ref a1), .val (.ref w_n2), .val (.long q3), .second] [])) t → Steps p.tables e below (s₁.setTop (entryFrame m #[(.ref a1), (.ref w_n2), (.long q3)] 4)) t := fun t k => castTop (ef_1_1 m a1 w_n2 q3) k
  obtain ⟨_, _, ⟨T1, L1, k1, n1⟩, -, X1, ⟨Lc1, hQ1, l1, y1, z1⟩, st1⟩ := X0.specialBack hx (y := (⟨"java/lang/Record", "<init>", "()V"⟩ : MethodName)) rfl hown (mvT hZ (hw _ (List.mem_of_getElem? (i := 9) rfl))) (mvT hZ (hw _ (List.mem_of_getElem? (i := 10) rfl))) (mvT hZ (hw _ (List.mem_of_getElem? (i := 13) rfl))) (by decide) (backOf (W := 0) (rm2 l Z a0 hw [] W a1 h0 n0 O0 ) hZ (hw _ (List.mem_of_getElem? (i := 13) rfl)) (hw _ (List.mem_of_getElem? (i := 12) rfl)) (by decide) (by decide)) (g := (mkF m 1 #[.val (.ref a1), .val (.ref w_n2), .val (.long q3), .second] [(.ref a1)])) rfl (by rw [hml]; rfl) (Steps.refl _) (a := a1) (argsL := []) (rest := []) (lenOf pd_0 rfl) rfl (by show 2 * 0 + _ ≤ _; exact Nat.le_of_eq rfl) (hb hby d1_1) (fun _ _ => ⟨rfl, e0, (by decide : 0 + 0 ≤ _), (by decide : 0 + 0 ≤ _)⟩)
  dsimp only [Pt.U, Pt.locs, Pt.cells, Pt.slots] at X1 l1 y1 z1 st1 hQ1
  subst l1 y1 z1
  obtain ⟨rfl, N1q, e1⟩ := hQ1
  have N1 := Fr.app N0 N1q
  obtain ⟨T2, h2, X2, e2, W2, st2⟩ := putF X1 hx hZ hown (host := "") (Or.inl (hw _ (List.mem_of_getElem? (i := 17) rfl))) Via.refl e1 hf1 hf0 (Or.inr ⟨(hw _ (List.mem_of_getElem? (i := 18) rfl)), rfl, hnm⟩) (hw _ (List.mem_of_getElem? (i := 4) rfl)) (ty := (.object "com/example/usher/usher/server/Role$Mode")) (by decide) rfl rfl (g := (mkF m 6 #[.val (.ref a1), .val (.ref w_n2), .val (.long q3), .second] [(.ref w_n2), (.ref a1)])) rfl rfl (hb hby d1_6)
  have fw2 : Fld Z h2 a1 "com/example/usher/usher/server/Role" "mode" "Lcom/example/usher/usher/server/Role$Mode;" (.ref w_n2) := (hf1).same W2
  have f2_0 : Exa Z h2 a1 "com/example/usher/usher/server/Role" := (hf0).wr W2
  have f2_1 : Fld Z h2 a1 "com/example/usher/usher/server/Role" "epoch" "J" (.long (0 : Int64)) := (hf2).other W2 (Or.inr (slot_ne (Or.inr (hw _ (List.mem_of_getElem? (i := 20) rfl))) (Or.inr (hw _ (List.mem_of_getElem? (i := 18) rfl))) (by decide) (t := .long) (t' := (.object "com/example/usher/usher/server/Role$Mode")) (by decide) (by decide)))
  have O2 := O0.wr W2 g_a1
  have N2 := Fr.snoc X2 N1 g_a1
  have K2 : Keep h0 h2 [a1] := (Keep.refl h0 [a1]).wr W2 (Or.inl (List.mem_of_getElem? (i := 0) rfl))
  obtain ⟨T3, h3, X3, e3, W3, st3⟩ := putF X2 hx hZ hown (host := "") (Or.inl (hw _ (List.mem_of_getElem? (i := 19) rfl))) Via.refl e2 f2_1 f2_0 (Or.inr ⟨(hw _ (List.mem_of_getElem? (i := 20) rfl)), rfl, hnm⟩) (hw _ (List.mem_of_getElem? (i := 4) rfl)) (ty := .long) (by decide) rfl rfl (g := (mkF m 11 #[.val (.ref a1), .val (.ref w_n2), .val (.long q3), .second] [(.long q3), (.ref a1)])) rfl rfl (hb hby d1_11)
  have fw3 : Fld Z h3 a1 "com/example/usher/usher/server/Role" "epoch" "J" (.long q3) := (f2_1).same W3
  have f3_0 : Exa Z h3 a1 "com/example/usher/usher/server/Role" := (f2_0).wr W3
  have f3_1 : Fld Z h3 a1 "com/example/usher/usher/server/Role" "mode" "Lcom/example/usher/usher/server/Role$Mode;" (.ref w_n2) := (fw2).other W3 (Or.inr (slot_ne (Or.inr (hw _ (List.mem_of_getElem? (i := 18) rfl))) (Or.inr (hw _ (List.mem_of_getElem? (i := 20) rfl))) (by decide) (t := (.object "com/example/usher/usher/server/Role$Mode")) (t' := .long) (by decide) (by decide)))
  have O3 := O2.wr W3 g_a1
  have N3 := Fr.snoc X3 N2 g_a1
  have K3 : Keep h0 h3 [a1] := K2.wr W3 (Or.inl (List.mem_of_getElem? (i := 0) rfl))
  obtain ⟨fs, hr, hrun, hended, hW, hsame⟩ := X3.leave (v := none) (fun _ => rfl)
  refine ⟨_, _, pre0 _ ?_, hrun, hended, _, _, rfl, ?_, ⟨_, rfl⟩, hW, hsame.mono (by decide) (by decide)⟩
  · show Steps p.tables e below (s₁.setTop (mkF m 0 #[.val (.ref a1), .val (.ref w_n2), .val (.long q3), .second] [])) _
    refine XS.aloadN X0.here hx rfl (hb hby d1_0) rfl rfl ?_
    show Steps p.tables e below (s₁.setTop (mkF m 1 #[.val (.ref a1), .val (.ref w_n2), .val (.long q3), .second] [(.ref a1)])) _
    refine st1.trans ?_
    show Steps p.tables e below (T1.setTop (mkF m 4 #[.val (.ref a1), .val (.ref w_n2), .val (.long q3), .second] [])) _
    refine XS.aloadN X1.here hx rfl (hb hby d1_4) rfl rfl ?_
    show Steps p.tables e below (T1.setTop (mkF m 5 #[.val (.ref a1), .val (.ref w_n2), .val (.long q3), .second] [(.ref a1)])) _
    refine XS.aloadN X1.here hx rfl (hb hby d1_5) rfl rfl ?_
    show Steps p.tables e below (T1.setTop (mkF m 6 #[.val (.ref a1), .val (.ref w_n2), .val (.long q3), .second] [(.ref w_n2), (.ref a1)])) _
    refine st2 _ ?_
    show Steps p.tables e below (T2.setTop (mkF m 9 #[.val (.ref a1), .val (.ref w_n2), .val (.long q3), .second] [])) _
    refine XS.aloadN X2.here hx rfl (hb hby d1_9) rfl rfl ?_
    show Steps p.tables e below (T2.setTop (mkF m 10 #[.val (.ref a1), .val (.ref w_n2), .val (.long q3), .second] [(.ref a1)])) _
    refine XS.lloadN X2.here hx rfl (hb hby d1_10) rfl ?_
    show Steps p.tables e below (T2.setTop (mkF m 11 #[.val (.ref a1), .val (.ref w_n2), .val (.long q3), .second] [(.long q3), (.ref a1)])) _
    refine st3 _ ?_
    show Steps p.tables e below (T3.setTop (mkF m 14 #[.val (.ref a1), .val (.ref w_n2), .val (.long q3), .second] [])) _
    exact X3.returnOut hx Bd.returns (hb hby d1_14) hr
  · show QW (fun v h => v = none ∧ Keep h0 h [a1] ∧ Exa Z h a1 "com/example/usher/usher/server/Role" ∧ Fld Z h a1 "com/example/usher/usher/server/Role" "mode" "Lcom/example/usher/usher/server/Role$Mode;" (.ref w_n2) ∧ Fld Z h a1 "com/example/usher/usher/server/Role" "epoch" "J" (.long q3)) n0 _ T3.heap _
    rw [e3]
    exact ⟨N3, ⟨rfl, K3, f3_0, f3_1, fw3⟩⟩
theorem d4_14 : decode prog_10_method_2_code 14 = .ok (.iconst 0, 1) := by decide +kernel
set_option maxRecDepth 65536 in
set_option maxHeartbeats 40000000 in
theorem rm4_LOOKING (l : Launch) (Z : State) (a0 : Array Value) (hw : ∀ d ∈ tables_1, d.before a0 Z = true) (ws : List Jvm.Cond) {w_n0 : Addr} {w_n2 : Addr} {w_n3 : Addr} {w_n1 : Addr} (W : Wd Z w_n0 w_n2 w_n3 w_n1) (a1 : Addr) (h0 : Heap) (n0 : Nat) (O0 : Old Z n0 h0) (hf0 : Fld Z h0 a1 "com/example/usher/usher/server/Role" "mode" "Lcom/example/usher/usher/server/Role$Mode;" (.ref w_n2)) :
    MetFree l (⟨"com/example/usher/usher/server/Role", "servesSessions", "()Z"⟩ : MethodName) (head1 (Jvm.Cond.code (⟨"com/example/usher/usher/server/Role", "servesSessions", "()Z"⟩ : MethodName) prog_10_method_2_code 1 (some .boolean) :: ws) ({ frames := 0, cells := 0, slots := 0, locals := 0 } : Room)) (fun a U => a = #[(.ref a1)] ∧ Z.Warmed39 U.vm ∧ U.heap = h0) (fun _ _ _ _ _ => True) (fun _ U o U' => ∃ v L, o = .returned v ∧ QP (some (.int (0 : Int32))) h0 n0 v U'.heap L ∧ FrameEnd U o U' L ({ frames := 0, cells := 0, slots := 0, locals := 0 } : Room).cells ({ frames := 0, cells := 0, slots := 0, locals := 0 } : Room).slots) := by
  have W' := W; obtain ⟨S_n0, E_n0, S_n2, E_n2, S_n3, E_n3, S_n1, E_n1, F_n0_ordinal, F_n2_ordinal, F_n3_ordinal, F_n1_ordinal⟩ := W'
  refine MetFree.of_bodySF (plainFor_of_name pn_4) hisR ?_
  intro p e s m args below meth c s₁ Bd hml0 hP hK
  obtain ⟨rfl, hZ, hh⟩ := hP
  have hx := Bd.exec
  have hby := Bd.bytes
  have hml : c.maxLocals = 1 := hml0
  have hown : s.vm.findClass "com/example/usher/usher/server/Role" = some m.cls := findClass_of_methodNamed Bd.named
  have hnm := (name_of_methodNamed Bd.named Bd.method).1
  have X0 : Stand p l e ({ frames := 0, cells := 0, slots := 0, locals := 0 } : Room) s m #[(.ref a1)] below meth c s₁ [] 0 0 := Stand.of_body Bd
  have e0 : s₁.heap = h0 := by rw [← hh, Bd.state]; rfl
  have N0 := Fr.nil n0
  have pre0 : ∀ t, Steps p.tables e below (s₁.setTop (mkF m 0 #[.val (.ref a1)] [])) t → Steps p.tables e below (s₁.setTop (entryFrame m #[(.ref a1)] 1)) t := fun t k => castTop (ef_4_2 m a1) k
  obtain ⟨T1, X1, e1, st1⟩ := getF X0 hx hZ hown (host := "") (Or.inl (hw _ (List.mem_of_getElem? (i := 17) rfl))) Via.refl e0 hf0 (g := (mkF m 1 #[.val (.ref a1)] [(.ref a1)])) rfl rfl (hb hby d4_1)
  obtain ⟨T2, X2, e2, st2⟩ := getS2 X1 hx hZ hown (host := "") (Or.inl (hw _ (List.mem_of_getElem? (i := 26) rfl))) Via.refl e1 (S_n2.ext O0.2) (g := (mkF m 4 #[.val (.ref a1)] [(.ref w_n2)])) rfl (hb hby d4_4)
  obtain ⟨fs, hr, hrun, hended, hW, hsame⟩ := X2.leave (v := some (.int (0 : Int32))) (fun h => by rw [Bd.returns] at h; cases h)
  refine ⟨_, _, pre0 _ ?_, hrun, hended, _, _, rfl, ?_, ⟨_, rfl⟩, hW, hsame.mono (by decide) (by decide)⟩
  · show Steps p.tables e below (s₁.setTop (mkF m 0 #[.val (.ref a1)] [])) _
    refine XS.aloadN X0.here hx rfl (hb hby d4_0) rfl rfl ?_
    show Steps p.tables e below (s₁.setTop (mkF m 1 #[.val (.ref a1)] [(.ref a1)])) _
    refine st1 _ ?_
    show Steps p.tables e below (T1.setTop (mkF m 4 #[.val (.ref a1)] [(.ref w_n2)])) _
    refine st2 _ ?_
    show Steps p.tables e below (T2.setTop (mkF m 7 #[.val (.ref a1)] [(.ref w_n2), (.ref w_n2)])) _
    refine Jvm.RoadKit.acmp (g := (mkF m 7 #[.val (.ref a1)] [(.ref w_n2), (.ref w_n2)])) X2 hx rfl rfl rfl (pc0 := 7) (pc' := 14) (same := true) rfl (hb hby d4_7) rfl (decide_eq_true rfl) (by decide) (by decide) ?_
    show Steps p.tables e below (T2.setTop (mkF m 14 #[.val (.ref a1)] [])) _
    refine XS.iconst X2.here hx rfl (hb hby d4_14) ?_
    show Steps p.tables e below (T2.setTop (mkF m 15 #[.val (.ref a1)] [(.int (0 : Int32))])) _
    exact retN X2 hx (t := .boolean) Bd.returns (by simp) (hb hby d4_15) hr
  · show QP (some (.int (0 : Int32))) h0 n0 _ T2.heap _
    rw [e2]
    exact ⟨rfl, N0, rfl⟩
set_option maxRecDepth 65536 in
set_option maxHeartbeats 40000000 in
theorem rm1_LEADER (l : Launch) (Z : State) (a0 : Array Value) (hw : ∀ d ∈ tables_1, d.before a0 Z = true) (ws : List Jvm.Cond) {w_n0 : Addr} {w_n2 : Addr} {w_n3 : Addr} {w_n1 : Addr} (W : Wd Z w_n0 w_n2 w_n3 w_n1) (a1 : Addr) (q3 : Int64) (h0 : Heap) (n0 : Nat) (O0 : Old Z n0 h0) (g_a1 : n0 ≤ a1) (hf0 : Exa Z h0 a1 "com/example/usher/usher/server/Role") (hf1 : Fld Z h0 a1 "com/example/usher/usher/server/Role" "mode" "Lcom/example/usher/usher/server/Role$Mode;" .null) (hf2 : Fld Z h0 a1 "com/example/usher/usher/server/Role" "epoch" "J" (.long (0 : Int64))) :
    MetFree l (⟨"com/example/usher/usher/server/Role", "<init>", "(Lcom/example/usher/usher/server/Role$Mode;J)V"⟩ : MethodName) (head1 (Jvm.Cond.code (⟨"com/example/usher/usher/server/Role", "<init>", "(Lcom/example/usher/usher/server/Role$Mode;J)V"⟩ : MethodName) prog_10_method_1_code 4 none :: ws) ({ frames := 2, cells := 0, slots := 0, locals := 24 } : Room)) (fun a U => a = #[(.ref a1), (.ref w_n3), (.long q3)] ∧ Z.Warmed39 U.vm ∧ U.heap = h0) (fun _ _ _ _ _ => True) (fun _ U o U' => ∃ v L, o = .returned v ∧ QW (fun v h => v = none ∧ Keep h0 h [a1] ∧ Exa Z h a1 "com/example/usher/usher/server/Role" ∧ Fld Z h a1 "com/example/usher/usher/server/Role" "mode" "Lcom/example/usher/usher/server/Role$Mode;" (.ref w_n3) ∧ Fld Z h a1 "com/example/usher/usher/server/Role" "epoch" "J" (.long q3)) n0 v U'.heap L ∧ FrameEnd U o U' L ({ frames := 2, cells := 0, slots := 0, locals := 24 } : Room).cells ({ frames := 2, cells := 0, slots := 0, locals := 24 } : Room).slots) := by
  have W' := W; obtain ⟨S_n0, E_n0, S_n2, E_n2, S_n3, E_n3, S_n1, E_n1, F_n0_ordinal, F_n2_ordinal, F_n3_ordinal, F_n1_ordinal⟩ := W'
  refine MetFree.of_bodySF (plainFor_of_name pn_1) hisR ?_
  intro p e s m args below meth c s₁ Bd hml0 hP hK
  obtain ⟨rfl, hZ, hh⟩ := hP
  have hx := Bd.exec
  have hby := Bd.bytes
  have hml : c.maxLocals = 4 := hml0
  have hown : s.vm.findClass "com/example/usher/usher/server/Role" = some m.cls := findClass_of_methodNamed Bd.named
  have hnm := (name_of_methodNamed Bd.named Bd.method).1
  have X0 : Stand p l e ({ frames := 2, cells := 0, slots := 0, locals := 24 } : Room) s m #[(.ref a1), (.ref w_n3), (.long q3)] below meth c s₁ [] 0 0 := Stand.of_body Bd
  have e0 : s₁.heap = h0 := by rw [← hh, Bd.state]; rfl
  have N0 := Fr.nil n0
  have pre0 : ∀ t, Steps p.tables e below (s₁.setTop (mkF m 0 #[.val (.ref a1), .val (.ref w_n3), .val (.long q3), .second] [])) t → Steps p.tables e below (s₁.setTop (entryFrame m #[(.ref a1), (.ref w_n3), (.long q3)] 4)) t := fun t k => castTop (ef_1_1 m a1 w_n3 q3) k
  obtain ⟨_, _, ⟨T1, L1, k1, n1⟩, -, X1, ⟨Lc1, hQ1, l1, y1, z1⟩, st1⟩ := X0.specialBack hx (y := (⟨"java/lang/Record", "<init>", "()V"⟩ : MethodName)) rfl hown (mvT hZ (hw _ (List.mem_of_getElem? (i := 9) rfl))) (mvT hZ (hw _ (List.mem_of_getElem? (i := 10) rfl))) (mvT hZ (hw _ (List.mem_of_getElem? (i := 13) rfl))) (by decide) (backOf (W := 0) (rm2 l Z a0 hw [] W a1 h0 n0 O0 ) hZ (hw _ (List.mem_of_getElem? (i := 13) rfl)) (hw _ (List.mem_of_getElem? (i := 12) rfl)) (by decide) (by decide)) (g := (mkF m 1 #[.val (.ref a1), .val (.ref w_n3), .val (.long q3), .second] [(.ref a1)])) rfl (by rw [hml]; rfl) (Steps.refl _) (a := a1) (argsL := []) (rest := []) (lenOf pd_0 rfl) rfl (by show 2 * 0 + _ ≤ _; exact Nat.le_of_eq rfl) (hb hby d1_1) (fun _ _ => ⟨rfl, e0, (by decide : 0 + 0 ≤ _), (by decide : 0 + 0 ≤ _)⟩)
  dsimp only [Pt.U, Pt.locs, Pt.cells, Pt.slots] at X1 l1 y1 z1 st1 hQ1
  subst l1 y1 z1
  obtain ⟨rfl, N1q, e1⟩ := hQ1
  have N1 := Fr.app N0 N1q
  obtain ⟨T2, h2, X2, e2, W2, st2⟩ := putF X1 hx hZ hown (host := "") (Or.inl (hw _ (List.mem_of_getElem? (i := 17) rfl))) Via.refl e1 hf1 hf0 (Or.inr ⟨(hw _ (List.mem_of_getElem? (i := 18) rfl)), rfl, hnm⟩) (hw _ (List.mem_of_getElem? (i := 4) rfl)) (ty := (.object "com/example/usher/usher/server/Role$Mode")) (by decide) rfl rfl (g := (mkF m 6 #[.val (.ref a1), .val (.ref w_n3), .val (.long q3), .second] [(.ref w_n3), (.ref a1)])) rfl rfl (hb hby d1_6)
  have fw2 : Fld Z h2 a1 "com/example/usher/usher/server/Role" "mode" "Lcom/example/usher/usher/server/Role$Mode;" (.ref w_n3) := (hf1).same W2
  have f2_0 : Exa Z h2 a1 "com/example/usher/usher/server/Role" := (hf0).wr W2
  have f2_1 : Fld Z h2 a1 "com/example/usher/usher/server/Role" "epoch" "J" (.long (0 : Int64)) := (hf2).other W2 (Or.inr (slot_ne (Or.inr (hw _ (List.mem_of_getElem? (i := 20) rfl))) (Or.inr (hw _ (List.mem_of_getElem? (i := 18) rfl))) (by decide) (t := .long) (t' := (.object "com/example/usher/usher/server/Role$Mode")) (by decide) (by decide)))
  have O2 := O0.wr W2 g_a1
  have N2 := Fr.snoc X2 N1 g_a1
  have K2 : Keep h0 h2 [a1] := (Keep.refl h0 [a1]).wr W2 (Or.inl (List.mem_of_getElem? (i := 0) rfl))
  obtain ⟨T3, h3, X3, e3, W3, st3⟩ := putF X2 hx hZ hown (host := "") (Or.inl (hw _ (List.mem_of_getElem? (i := 19) rfl))) Via.refl e2 f2_1 f2_0 (Or.inr ⟨(hw _ (List.mem_of_getElem? (i := 20) rfl)), rfl, hnm⟩) (hw _ (List.mem_of_getElem? (i := 4) rfl)) (ty := .long) (by decide) rfl rfl (g := (mkF m 11 #[.val (.ref a1), .val (.ref w_n3), .val (.long q3), .second] [(.long q3), (.ref a1)])) rfl rfl (hb hby d1_11)
  have fw3 : Fld Z h3 a1 "com/example/usher/usher/server/Role" "epoch" "J" (.long q3) := (f2_1).same W3
  have f3_0 : Exa Z h3 a1 "com/example/usher/usher/server/Role" := (f2_0).wr W3
  have f3_1 : Fld Z h3 a1 "com/example/usher/usher/server/Role" "mode" "Lcom/example/usher/usher/server/Role$Mode;" (.ref w_n3) := (fw2).other W3 (Or.inr (slot_ne (Or.inr (hw _ (List.mem_of_getElem? (i := 18) rfl))) (Or.inr (hw _ (List.mem_of_getElem? (i := 20) rfl))) (by decide) (t := (.object "com/example/usher/usher/server/Role$Mode")) (t' := .long) (by decide) (by decide)))
  have O3 := O2.wr W3 g_a1
  have N3 := Fr.snoc X3 N2 g_a1
  have K3 : Keep h0 h3 [a1] := K2.wr W3 (Or.inl (List.mem_of_getElem? (i := 0) rfl))
  obtain ⟨fs, hr, hrun, hended, hW, hsame⟩ := X3.leave (v := none) (fun _ => rfl)
  refine ⟨_, _, pre0 _ ?_, hrun, hended, _, _, rfl, ?_, ⟨_, rfl⟩, hW, hsame.mono (by decide) (by decide)⟩
  · show Steps p.tables e below (s₁.setTop (mkF m 0 #[.val (.ref a1), .val (.ref w_n3), .val (.long q3), .second] [])) _
    refine XS.aloadN X0.here hx rfl (hb hby d1_0) rfl rfl ?_
    show Steps p.tables e below (s₁.setTop (mkF m 1 #[.val (.ref a1), .val (.ref w_n3), .val (.long q3), .second] [(.ref a1)])) _
    refine st1.trans ?_
    show Steps p.tables e below (T1.setTop (mkF m 4 #[.val (.ref a1), .val (.ref w_n3), .val (.long q3), .second] [])) _
    refine XS.aloadN X1.here hx rfl (hb hby d1_4) rfl rfl ?_
    show Steps p.tables e below (T1.setTop (mkF m 5 #[.val (.ref a1), .val (.ref w_n3), .val (.long q3), .second] [(.ref a1)])) _
    refine XS.aloadN X1.here hx rfl (hb hby d1_5) rfl rfl ?_
    show Steps p.tables e below (T1.setTop (mkF m 6 #[.val (.ref a1), .val (.ref w_n3), .val (.long q3), .second] [(.ref w_n3), (.ref a1)])) _
    refine st2 _ ?_
    show Steps p.tables e below (T2.setTop (mkF m 9 #[.val (.ref a1), .val (.ref w_n3), .val (.long q3), .second] [])) _
    refine XS.aloadN X2.here hx rfl (hb hby d1_9) rfl rfl ?_
    show Steps p.tables e below (T2.setTop (mkF m 10 #[.val (.ref a1), .val (.ref w_n3), .val (.long q3), .second] [(.ref a1)])) _
    refine XS.lloadN X2.here hx rfl (hb hby d1_10) rfl ?_
    show Steps p.tables e below (T2.setTop (mkF m 11 #[.val (.ref a1), .val (.ref w_n3), .val (.long q3), .second] [(.long q3), (.ref a1)])) _
    refine st3 _ ?_
    show Steps p.tables e below (T3.setTop (mkF m 14 #[.val (.ref a1), .val (.ref w_n3), .val (.long q3), .second] [])) _
    exact X3.returnOut hx Bd.returns (hb hby d1_14) hr
  · show QW (fun v h => v = none ∧ Keep h0 h [a1] ∧ Exa Z h a1 "com/example/usher/usher/server/Role" ∧ Fld Z h a1 "com/example/usher/usher/server/Role" "mode" "Lcom/example/usher/usher/server/Role$Mode;" (.ref w_n3) ∧ Fld Z h a1 "com/example/usher/usher/server/Role" "epoch" "J" (.long q3)) n0 _ T3.heap _
    rw [e3]
    exact ⟨N3, ⟨rfl, K3, f3_0, f3_1, fw3⟩⟩
set_option maxRecDepth 65536 in
set_option maxHeartbeats 40000000 in
theorem rm4_LEADER (l : Launch) (Z : State) (a0 : Array Value) (hw : ∀ d ∈ tables_1, d.before a0 Z = true) (ws : List Jvm.Cond) {w_n0 : Addr} {w_n2 : Addr} {w_n3 : Addr} {w_n1 : Addr} (W : Wd Z w_n0 w_n2 w_n3 w_n1) (a1 : Addr) (h0 : Heap) (n0 : Nat) (O0 : Old Z n0 h0) (hf0 : Fld Z h0 a1 "com/example/usher/usher/server/Role" "mode" "Lcom/example/usher/usher/server/Role$Mode;" (.ref w_n3)) :
    MetFree l (⟨"com/example/usher/usher/server/Role", "servesSessions", "()Z"⟩ : MethodName) (head1 (Jvm.Cond.code (⟨"com/example/usher/usher/server/Role", "servesSessions", "()Z"⟩ : MethodName) prog_10_method_2_code 1 (some .boolean) :: ws) ({ frames := 0, cells := 0, slots := 0, locals := 0 } : Room)) (fun a U => a = #[(.ref a1)] ∧ Z.Warmed39 U.vm ∧ U.heap = h0) (fun _ _ _ _ _ => True) (fun _ U o U' => ∃ v L, o = .returned v ∧ QP (some (.int (1 : Int32))) h0 n0 v U'.heap L ∧ FrameEnd U o U' L ({ frames := 0, cells := 0, slots := 0, locals := 0 } : Room).cells ({ frames := 0, cells := 0, slots := 0, locals := 0 } : Room).slots) := by
  have W' := W; obtain ⟨S_n0, E_n0, S_n2, E_n2, S_n3, E_n3, S_n1, E_n1, F_n0_ordinal, F_n2_ordinal, F_n3_ordinal, F_n1_ordinal⟩ := W'
  refine MetFree.of_bodySF (plainFor_of_name pn_4) hisR ?_
  intro p e s m args below meth c s₁ Bd hml0 hP hK
  obtain ⟨rfl, hZ, hh⟩ := hP
  have hx := Bd.exec
  have hby := Bd.bytes
  have hml : c.maxLocals = 1 := hml0
  have hown : s.vm.findClass "com/example/usher/usher/server/Role" = some m.cls := findClass_of_methodNamed Bd.named
  have hnm := (name_of_methodNamed Bd.named Bd.method).1
  have X0 : Stand p l e ({ frames := 0, cells := 0, slots := 0, locals := 0 } : Room) s m #[(.ref a1)] below meth c s₁ [] 0 0 := Stand.of_body Bd
  have e0 : s₁.heap = h0 := by rw [← hh, Bd.state]; rfl
  have N0 := Fr.nil n0
  have pre0 : ∀ t, Steps p.tables e below (s₁.setTop (mkF m 0 #[.val (.ref a1)] [])) t → Steps p.tables e below (s₁.setTop (entryFrame m #[(.ref a1)] 1)) t := fun t k => castTop (ef_4_2 m a1) k
  obtain ⟨T1, X1, e1, st1⟩ := getF X0 hx hZ hown (host := "") (Or.inl (hw _ (List.mem_of_getElem? (i := 17) rfl))) Via.refl e0 hf0 (g := (mkF m 1 #[.val (.ref a1)] [(.ref a1)])) rfl rfl (hb hby d4_1)
  obtain ⟨T2, X2, e2, st2⟩ := getS2 X1 hx hZ hown (host := "") (Or.inl (hw _ (List.mem_of_getElem? (i := 26) rfl))) Via.refl e1 (S_n2.ext O0.2) (g := (mkF m 4 #[.val (.ref a1)] [(.ref w_n3)])) rfl (hb hby d4_4)
  obtain ⟨fs, hr, hrun, hended, hW, hsame⟩ := X2.leave (v := some (.int (1 : Int32))) (fun h => by rw [Bd.returns] at h; cases h)
  refine ⟨_, _, pre0 _ ?_, hrun, hended, _, _, rfl, ?_, ⟨_, rfl⟩, hW, hsame.mono (by decide) (by decide)⟩
  · show Steps p.tables e below (s₁.setTop (mkF m 0 #[.val (.ref a1)] [])) _
    refine XS.aloadN X0.here hx rfl (hb hby d4_0) rfl rfl ?_
    show Steps p.tables e below (s₁.setTop (mkF m 1 #[.val (.ref a1)] [(.ref a1)])) _
    refine st1 _ ?_
    show Steps p.tables e below (T1.setTop (mkF m 4 #[.val (.ref a1)] [(.ref w_n3)])) _
    refine st2 _ ?_
    show Steps p.tables e below (T2.setTop (mkF m 7 #[.val (.ref a1)] [(.ref w_n2), (.ref w_n3)])) _
    refine Jvm.RoadKit.acmp (g := (mkF m 7 #[.val (.ref a1)] [(.ref w_n2), (.ref w_n3)])) X2 hx rfl rfl rfl (pc0 := 7) (pc' := 10) (same := false) rfl (hb hby d4_7) rfl (decide_eq_false fun q => (Fld.ne F_n3_ordinal F_n2_ordinal (fun q => absurd (Value.int.inj q) (by decide))) (Value.ref.inj q)) (by decide) (by decide) ?_
    show Steps p.tables e below (T2.setTop (mkF m 10 #[.val (.ref a1)] [])) _
    refine XS.iconst X2.here hx rfl (hb hby d4_10) ?_
    show Steps p.tables e below (T2.setTop (mkF m 11 #[.val (.ref a1)] [(.int (1 : Int32))])) _
    refine XS.goto X2.here hx rfl (pc0 := 11) (pc' := 15) rfl (hb hby d4_11) (by decide) (by decide) ?_
    show Steps p.tables e below (T2.setTop (mkF m 15 #[.val (.ref a1)] [(.int (1 : Int32))])) _
    exact retN X2 hx (t := .boolean) Bd.returns (by simp) (hb hby d4_15) hr
  · show QP (some (.int (1 : Int32))) h0 n0 _ T2.heap _
    rw [e2]
    exact ⟨rfl, N0, rfl⟩
set_option maxRecDepth 65536 in
set_option maxHeartbeats 40000000 in
theorem rm1_FOLLOWER (l : Launch) (Z : State) (a0 : Array Value) (hw : ∀ d ∈ tables_1, d.before a0 Z = true) (ws : List Jvm.Cond) {w_n0 : Addr} {w_n2 : Addr} {w_n3 : Addr} {w_n1 : Addr} (W : Wd Z w_n0 w_n2 w_n3 w_n1) (a1 : Addr) (q3 : Int64) (h0 : Heap) (n0 : Nat) (O0 : Old Z n0 h0) (g_a1 : n0 ≤ a1) (hf0 : Exa Z h0 a1 "com/example/usher/usher/server/Role") (hf1 : Fld Z h0 a1 "com/example/usher/usher/server/Role" "mode" "Lcom/example/usher/usher/server/Role$Mode;" .null) (hf2 : Fld Z h0 a1 "com/example/usher/usher/server/Role" "epoch" "J" (.long (0 : Int64))) :
    MetFree l (⟨"com/example/usher/usher/server/Role", "<init>", "(Lcom/example/usher/usher/server/Role$Mode;J)V"⟩ : MethodName) (head1 (Jvm.Cond.code (⟨"com/example/usher/usher/server/Role", "<init>", "(Lcom/example/usher/usher/server/Role$Mode;J)V"⟩ : MethodName) prog_10_method_1_code 4 none :: ws) ({ frames := 2, cells := 0, slots := 0, locals := 24 } : Room)) (fun a U => a = #[(.ref a1), (.ref w_n1), (.long q3)] ∧ Z.Warmed39 U.vm ∧ U.heap = h0) (fun _ _ _ _ _ => True) (fun _ U o U' => ∃ v L, o = .returned v ∧ QW (fun v h => v = none ∧ Keep h0 h [a1] ∧ Exa Z h a1 "com/example/usher/usher/server/Role" ∧ Fld Z h a1 "com/example/usher/usher/server/Role" "mode" "Lcom/example/usher/usher/server/Role$Mode;" (.ref w_n1) ∧ Fld Z h a1 "com/example/usher/usher/server/Role" "epoch" "J" (.long q3)) n0 v U'.heap L ∧ FrameEnd U o U' L ({ frames := 2, cells := 0, slots := 0, locals := 24 } : Room).cells ({ frames := 2, cells := 0, slots := 0, locals := 24 } : Room).slots) := by
  have W' := W; obtain ⟨S_n0, E_n0, S_n2, E_n2, S_n3, E_n3, S_n1, E_n1, F_n0_ordinal, F_n2_ordinal, F_n3_ordinal, F_n1_ordinal⟩ := W'
  refine MetFree.of_bodySF (plainFor_of_name pn_1) hisR ?_
  intro p e s m args below meth c s₁ Bd hml0 hP hK
  obtain ⟨rfl, hZ, hh⟩ := hP
  have hx := Bd.exec
  have hby := Bd.bytes
  have hml : c.maxLocals = 4 := hml0
  have hown : s.vm.findClass "com/example/usher/usher/server/Role" = some m.cls := findClass_of_methodNamed Bd.named
  have hnm := (name_of_methodNamed Bd.named Bd.method).1
  have X0 : Stand p l e ({ frames := 2, cells := 0, slots := 0, locals := 24 } : Room) s m #[(.ref a1), (.ref w_n1), (.long q3)] below meth c s₁ [] 0 0 := Stand.of_body Bd
  have e0 : s₁.heap = h0 := by rw [← hh, Bd.state]; rfl
  have N0 := Fr.nil n0
  have pre0 : ∀ t, Steps p.tables e below (s₁.setTop (mkF m 0 #[.val (.ref a1), .val (.ref w_n1), .val (.long q3), .second] [])) t → Steps p.tables e below (s₁.setTop (entryFrame m #[(.ref a1), (.ref w_n1), (.long q3)] 4)) t := fun t k => castTop (ef_1_1 m a1 w_n1 q3) k
  obtain ⟨_, _, ⟨T1, L1, k1, n1⟩, -, X1, ⟨Lc1, hQ1, l1, y1, z1⟩, st1⟩ := X0.specialBack hx (y := (⟨"java/lang/Record", "<init>", "()V"⟩ : MethodName)) rfl hown (mvT hZ (hw _ (List.mem_of_getElem? (i := 9) rfl))) (mvT hZ (hw _ (List.mem_of_getElem? (i := 10) rfl))) (mvT hZ (hw _ (List.mem_of_getElem? (i := 13) rfl))) (by decide) (backOf (W := 0) (rm2 l Z a0 hw [] W a1 h0 n0 O0 ) hZ (hw _ (List.mem_of_getElem? (i := 13) rfl)) (hw _ (List.mem_of_getElem? (i := 12) rfl)) (by decide) (by decide)) (g := (mkF m 1 #[.val (.ref a1), .val (.ref w_n1), .val (.long q3), .second] [(.ref a1)])) rfl (by rw [hml]; rfl) (Steps.refl _) (a := a1) (argsL := []) (rest := []) (lenOf pd_0 rfl) rfl (by show 2 * 0 + _ ≤ _; exact Nat.le_of_eq rfl) (hb hby d1_1) (fun _ _ => ⟨rfl, e0, (by decide : 0 + 0 ≤ _), (by decide : 0 + 0 ≤ _)⟩)
  dsimp only [Pt.U, Pt.locs, Pt.cells, Pt.slots] at X1 l1 y1 z1 st1 hQ1
  subst l1 y1 z1
  obtain ⟨rfl, N1q, e1⟩ := hQ1
  have N1 := Fr.app N0 N1q
  obtain ⟨T2, h2, X2, e2, W2, st2⟩ := putF X1 hx hZ hown (host := "") (Or.inl (hw _ (List.mem_of_getElem? (i := 17) rfl))) Via.refl e1 hf1 hf0 (Or.inr ⟨(hw _ (List.mem_of_getElem? (i := 18) rfl)), rfl, hnm⟩) (hw _ (List.mem_of_getElem? (i := 4) rfl)) (ty := (.object "com/example/usher/usher/server/Role$Mode")) (by decide) rfl rfl (g := (mkF m 6 #[.val (.ref a1), .val (.ref w_n1), .val (.long q3), .second] [(.ref w_n1), (.ref a1)])) rfl rfl (hb hby d1_6)
  have fw2 : Fld Z h2 a1 "com/example/usher/usher/server/Role" "mode" "Lcom/example/usher/usher/server/Role$Mode;" (.ref w_n1) := (hf1).same W2
  have f2_0 : Exa Z h2 a1 "com/example/usher/usher/server/Role" := (hf0).wr W2
  have f2_1 : Fld Z h2 a1 "com/example/usher/usher/server/Role" "epoch" "J" (.long (0 : Int64)) := (hf2).other W2 (Or.inr (slot_ne (Or.inr (hw _ (List.mem_of_getElem? (i := 20) rfl))) (Or.inr (hw _ (List.mem_of_getElem? (i := 18) rfl))) (by decide) (t := .long) (t' := (.object "com/example/usher/usher/server/Role$Mode")) (by decide) (by decide)))
  have O2 := O0.wr W2 g_a1
  have N2 := Fr.snoc X2 N1 g_a1
  have K2 : Keep h0 h2 [a1] := (Keep.refl h0 [a1]).wr W2 (Or.inl (List.mem_of_getElem? (i := 0) rfl))
  obtain ⟨T3, h3, X3, e3, W3, st3⟩ := putF X2 hx hZ hown (host := "") (Or.inl (hw _ (List.mem_of_getElem? (i := 19) rfl))) Via.refl e2 f2_1 f2_0 (Or.inr ⟨(hw _ (List.mem_of_getElem? (i := 20) rfl)), rfl, hnm⟩) (hw _ (List.mem_of_getElem? (i := 4) rfl)) (ty := .long) (by decide) rfl rfl (g := (mkF m 11 #[.val (.ref a1), .val (.ref w_n1), .val (.long q3), .second] [(.long q3), (.ref a1)])) rfl rfl (hb hby d1_11)
  have fw3 : Fld Z h3 a1 "com/example/usher/usher/server/Role" "epoch" "J" (.long q3) := (f2_1).same W3
  have f3_0 : Exa Z h3 a1 "com/example/usher/usher/server/Role" := (f2_0).wr W3
  have f3_1 : Fld Z h3 a1 "com/example/usher/usher/server/Role" "mode" "Lcom/example/usher/usher/server/Role$Mode;" (.ref w_n1) := (fw2).other W3 (Or.inr (slot_ne (Or.inr (hw _ (List.mem_of_getElem? (i := 18) rfl))) (Or.inr (hw _ (List.mem_of_getElem? (i := 20) rfl))) (by decide) (t := (.object "com/example/usher/usher/server/Role$Mode")) (t' := .long) (by decide) (by decide)))
  have O3 := O2.wr W3 g_a1
  have N3 := Fr.snoc X3 N2 g_a1
  have K3 : Keep h0 h3 [a1] := K2.wr W3 (Or.inl (List.mem_of_getElem? (i := 0) rfl))
  obtain ⟨fs, hr, hrun, hended, hW, hsame⟩ := X3.leave (v := none) (fun _ => rfl)
  refine ⟨_, _, pre0 _ ?_, hrun, hended, _, _, rfl, ?_, ⟨_, rfl⟩, hW, hsame.mono (by decide) (by decide)⟩
  · show Steps p.tables e below (s₁.setTop (mkF m 0 #[.val (.ref a1), .val (.ref w_n1), .val (.long q3), .second] [])) _
    refine XS.aloadN X0.here hx rfl (hb hby d1_0) rfl rfl ?_
    show Steps p.tables e below (s₁.setTop (mkF m 1 #[.val (.ref a1), .val (.ref w_n1), .val (.long q3), .second] [(.ref a1)])) _
    refine st1.trans ?_
    show Steps p.tables e below (T1.setTop (mkF m 4 #[.val (.ref a1), .val (.ref w_n1), .val (.long q3), .second] [])) _
    refine XS.aloadN X1.here hx rfl (hb hby d1_4) rfl rfl ?_
    show Steps p.tables e below (T1.setTop (mkF m 5 #[.val (.ref a1), .val (.ref w_n1), .val (.long q3), .second] [(.ref a1)])) _
    refine XS.aloadN X1.here hx rfl (hb hby d1_5) rfl rfl ?_
    show Steps p.tables e below (T1.setTop (mkF m 6 #[.val (.ref a1), .val (.ref w_n1), .val (.long q3), .second] [(.ref w_n1), (.ref a1)])) _
    refine st2 _ ?_
    show Steps p.tables e below (T2.setTop (mkF m 9 #[.val (.ref a1), .val (.ref w_n1), .val (.long q3), .second] [])) _
    refine XS.aloadN X2.here hx rfl (hb hby d1_9) rfl rfl ?_
    show Steps p.tables e below (T2.setTop (mkF m 10 #[.val (.ref a1), .val (.ref w_n1), .val (.long q3), .second] [(.ref a1)])) _
    refine XS.lloadN X2.here hx rfl (hb hby d1_10) rfl ?_
    show Steps p.tables e below (T2.setTop (mkF m 11 #[.val (.ref a1), .val (.ref w_n1), .val (.long q3), .second] [(.long q3), (.ref a1)])) _
    refine st3 _ ?_
    show Steps p.tables e below (T3.setTop (mkF m 14 #[.val (.ref a1), .val (.ref w_n1), .val (.long q3), .second] [])) _
    exact X3.returnOut hx Bd.returns (hb hby d1_14) hr
  · show QW (fun v h => v = none ∧ Keep h0 h [a1] ∧ Exa Z h a1 "com/example/usher/usher/server/Role" ∧ Fld Z h a1 "com/example/usher/usher/server/Role" "mode" "Lcom/example/usher/usher/server/Role$Mode;" (.ref w_n1) ∧ Fld Z h a1 "com/example/usher/usher/server/Role" "epoch" "J" (.long q3)) n0 _ T3.heap _
    rw [e3]
    exact ⟨N3, ⟨rfl, K3, f3_0, f3_1, fw3⟩⟩
set_option maxRecDepth 65536 in
set_option maxHeartbeats 40000000 in
theorem rm4_FOLLOWER (l : Launch) (Z : State) (a0 : Array Value) (hw : ∀ d ∈ tables_1, d.before a0 Z = true) (ws : List Jvm.Cond) {w_n0 : Addr} {w_n2 : Addr} {w_n3 : Addr} {w_n1 : Addr} (W : Wd Z w_n0 w_n2 w_n3 w_n1) (a1 : Addr) (h0 : Heap) (n0 : Nat) (O0 : Old Z n0 h0) (hf0 : Fld Z h0 a1 "com/example/usher/usher/server/Role" "mode" "Lcom/example/usher/usher/server/Role$Mode;" (.ref w_n1)) :
    MetFree l (⟨"com/example/usher/usher/server/Role", "servesSessions", "()Z"⟩ : MethodName) (head1 (Jvm.Cond.code (⟨"com/example/usher/usher/server/Role", "servesSessions", "()Z"⟩ : MethodName) prog_10_method_2_code 1 (some .boolean) :: ws) ({ frames := 0, cells := 0, slots := 0, locals := 0 } : Room)) (fun a U => a = #[(.ref a1)] ∧ Z.Warmed39 U.vm ∧ U.heap = h0) (fun _ _ _ _ _ => True) (fun _ U o U' => ∃ v L, o = .returned v ∧ QP (some (.int (1 : Int32))) h0 n0 v U'.heap L ∧ FrameEnd U o U' L ({ frames := 0, cells := 0, slots := 0, locals := 0 } : Room).cells ({ frames := 0, cells := 0, slots := 0, locals := 0 } : Room).slots) := by
  have W' := W; obtain ⟨S_n0, E_n0, S_n2, E_n2, S_n3, E_n3, S_n1, E_n1, F_n0_ordinal, F_n2_ordinal, F_n3_ordinal, F_n1_ordinal⟩ := W'
  refine MetFree.of_bodySF (plainFor_of_name pn_4) hisR ?_
  intro p e s m args below meth c s₁ Bd hml0 hP hK
  obtain ⟨rfl, hZ, hh⟩ := hP
  have hx := Bd.exec
  have hby := Bd.bytes
  have hml : c.maxLocals = 1 := hml0
  have hown : s.vm.findClass "com/example/usher/usher/server/Role" = some m.cls := findClass_of_methodNamed Bd.named
  have hnm := (name_of_methodNamed Bd.named Bd.method).1
  have X0 : Stand p l e ({ frames := 0, cells := 0, slots := 0, locals := 0 } : Room) s m #[(.ref a1)] below meth c s₁ [] 0 0 := Stand.of_body Bd
  have e0 : s₁.heap = h0 := by rw [← hh, Bd.state]; rfl
  have N0 := Fr.nil n0
  have pre0 : ∀ t, Steps p.tables e below (s₁.setTop (mkF m 0 #[.val (.ref a1)] [])) t → Steps p.tables e below (s₁.setTop (entryFrame m #[(.ref a1)] 1)) t := fun t k => castTop (ef_4_2 m a1) k
  obtain ⟨T1, X1, e1, st1⟩ := getF X0 hx hZ hown (host := "") (Or.inl (hw _ (List.mem_of_getElem? (i := 17) rfl))) Via.refl e0 hf0 (g := (mkF m 1 #[.val (.ref a1)] [(.ref a1)])) rfl rfl (hb hby d4_1)
  obtain ⟨T2, X2, e2, st2⟩ := getS2 X1 hx hZ hown (host := "") (Or.inl (hw _ (List.mem_of_getElem? (i := 26) rfl))) Via.refl e1 (S_n2.ext O0.2) (g := (mkF m 4 #[.val (.ref a1)] [(.ref w_n1)])) rfl (hb hby d4_4)
  obtain ⟨fs, hr, hrun, hended, hW, hsame⟩ := X2.leave (v := some (.int (1 : Int32))) (fun h => by rw [Bd.returns] at h; cases h)
  refine ⟨_, _, pre0 _ ?_, hrun, hended, _, _, rfl, ?_, ⟨_, rfl⟩, hW, hsame.mono (by decide) (by decide)⟩
  · show Steps p.tables e below (s₁.setTop (mkF m 0 #[.val (.ref a1)] [])) _
    refine XS.aloadN X0.here hx rfl (hb hby d4_0) rfl rfl ?_
    show Steps p.tables e below (s₁.setTop (mkF m 1 #[.val (.ref a1)] [(.ref a1)])) _
    refine st1 _ ?_
    show Steps p.tables e below (T1.setTop (mkF m 4 #[.val (.ref a1)] [(.ref w_n1)])) _
    refine st2 _ ?_
    show Steps p.tables e below (T2.setTop (mkF m 7 #[.val (.ref a1)] [(.ref w_n2), (.ref w_n1)])) _
    refine Jvm.RoadKit.acmp (g := (mkF m 7 #[.val (.ref a1)] [(.ref w_n2), (.ref w_n1)])) X2 hx rfl rfl rfl (pc0 := 7) (pc' := 10) (same := false) rfl (hb hby d4_7) rfl (decide_eq_false fun q => (Fld.ne F_n1_ordinal F_n2_ordinal (fun q => absurd (Value.int.inj q) (by decide))) (Value.ref.inj q)) (by decide) (by decide) ?_
    show Steps p.tables e below (T2.setTop (mkF m 10 #[.val (.ref a1)] [])) _
    refine XS.iconst X2.here hx rfl (hb hby d4_10) ?_
    show Steps p.tables e below (T2.setTop (mkF m 11 #[.val (.ref a1)] [(.int (1 : Int32))])) _
    refine XS.goto X2.here hx rfl (pc0 := 11) (pc' := 15) rfl (hb hby d4_11) (by decide) (by decide) ?_
    show Steps p.tables e below (T2.setTop (mkF m 15 #[.val (.ref a1)] [(.int (1 : Int32))])) _
    exact retN X2 hx (t := .boolean) Bd.returns (by simp) (hb hby d4_15) hr
  · show QP (some (.int (1 : Int32))) h0 n0 _ T2.heap _
    rw [e2]
    exact ⟨rfl, N0, rfl⟩
theorem pd_1 : parseMethodDescriptor "(Lcom/example/usher/usher/server/Role$Mode;J)V" = some ⟨[(.object "com/example/usher/usher/server/Role$Mode"), .long], none⟩ := by decide +kernel
theorem pd_2 : parseMethodDescriptor "()Z" = some ⟨[], some .boolean⟩ := by decide +kernel
theorem ef_0_3 (m : MethodId) (x0 : Int32) (x1 : Int64) : entryFrame m #[(.int x0), (.long x1)] maxLocals = mkF m 0 #[.val (.int x0), .val (.long x1), .second, .unset, .unset, .unset, .unset] [] := by first | (simp [entryFrame, mkF, argsToLocals, Value.category, maxLocals]; done) | rfl
theorem pn_0 : plainName "com/example/usher/usher/server/RoleServesSessionsPinLaw" = true := by first | (simp [plainName, overriddenIn]; done) | decide +kernel
set_option maxRecDepth 65536 in
set_option maxHeartbeats 40000000 in
theorem rm0_0 (l : Launch) (Z : State) (a0 : Array Value) (hw : ∀ d ∈ tables_1, d.before a0 Z = true) (ws : List Jvm.Cond) {w_n0 : Addr} {w_n2 : Addr} {w_n3 : Addr} {w_n1 : Addr} (W : Wd Z w_n0 w_n2 w_n3 w_n1) (p1 : Int32) (q2 : Int64) (h0 : Heap) (n0 : Nat) (O0 : Old Z n0 h0) (hk : (p1 &&& (3 : Int32)) = (0 : Int32)) :
    MetFree l x (head1 (Jvm.Cond.code x code maxLocals ret :: ws) room_1) (fun a U => a = #[(.int p1), (.long q2)] ∧ Z.Warmed39 U.vm ∧ U.heap = h0) (fun _ _ _ _ _ => True) (fun _ U o U' => ∃ v L, o = .returned v ∧ Q0 n0 v U'.heap L ∧ FrameEnd U o U' L room_1.cells room_1.slots) := by
  have W' := W; obtain ⟨S_n0, E_n0, S_n2, E_n2, S_n3, E_n3, S_n1, E_n1, F_n0_ordinal, F_n2_ordinal, F_n3_ordinal, F_n1_ordinal⟩ := W'
  refine MetFree.of_bodySF (plainFor_of_name pn_0) hisR ?_
  intro p e s m args below meth c s₁ Bd hml0 hP hK
  obtain ⟨rfl, hZ, hh⟩ := hP
  have hx := Bd.exec
  have hby := Bd.bytes
  have hml : c.maxLocals = 7 := hml0
  have hown : s.vm.findClass "com/example/usher/usher/server/RoleServesSessionsPinLaw" = some m.cls := findClass_of_methodNamed Bd.named
  have hnm := (name_of_methodNamed Bd.named Bd.method).1
  have X0 : Stand p l e room_1 s m #[(.int p1), (.long q2)] below meth c s₁ [] 0 0 := Stand.of_body Bd
  have e0 : s₁.heap = h0 := by rw [← hh, Bd.state]; rfl
  have N0 := Fr.nil n0
  have pre0 : ∀ t, Steps p.tables e below (s₁.setTop (mkF m 0 #[.val (.int p1), .val (.long q2), .second, .unset, .unset, .unset, .unset] [])) t → Steps p.tables e below (s₁.setTop (entryFrame m #[(.int p1), (.long q2)] maxLocals)) t := fun t k => castTop (ef_0_3 m p1 q2) k
  obtain ⟨T1, X1, e1, st1⟩ := getS2 X0 hx hZ hown (host := "") (Or.inl (hw _ (List.mem_of_getElem? (i := 0) rfl))) Via.refl e0 (S_n0.ext O0.2) (g := (mkF m 8 #[.val (.int p1), .val (.long q2), .second, .val (.int (0 : Int32)), .unset, .unset, .unset] [])) rfl (hb hby at_8)
  obtain ⟨T2, h2, X2, e2, E2, A2, D2, U2, st2⟩ := newO X1 hx hZ hown (hw _ (List.mem_of_getElem? (i := 3) rfl)) (hw _ (List.mem_of_getElem? (i := 4) rfl)) (hw _ (List.mem_of_getElem? (i := 5) rfl)) e1 (g := (mkF m 59 #[.val (.int p1), .val (.long q2), .second, .val (.int (0 : Int32)), .val (.ref w_n0), .val (.int (1 : Int32)), .unset] [])) rfl (hb hby at_59) (by decide) (by decide)
  obtain ⟨b2, g2⟩ : ∃ z, z = h0.size := ⟨_, rfl⟩
  rw [← g2] at A2 D2 U2 st2
  have g_b2 : n0 ≤ b2 := by rw [g2]; exact O0.1 ▸ O0.2.1
  have O2 := O0.ext E2
  have f2_mode : Fld Z h2 b2 "com/example/usher/usher/server/Role" "mode" "Lcom/example/usher/usher/server/Role$Mode;" .null := D2 (Or.inr (hw _ (List.mem_of_getElem? (i := 18) rfl))) (ty := (.object "com/example/usher/usher/server/Role$Mode")) (by decide)
  have f2_epoch : Fld Z h2 b2 "com/example/usher/usher/server/Role" "epoch" "J" (.long (0 : Int64)) := D2 (Or.inr (hw _ (List.mem_of_getElem? (i := 20) rfl))) (ty := .long) (by decide)
  obtain ⟨_, _, ⟨T3, L3, k3, n3⟩, -, X3, ⟨Lc3, hQ3, l3, y3, z3⟩, st3⟩ := X2.specialBack hx (y := (⟨"com/example/usher/usher/server/Role", "<init>", "(Lcom/example/usher/usher/server/Role$Mode;J)V"⟩ : MethodName)) rfl hown (mvT hZ (hw _ (List.mem_of_getElem? (i := 6) rfl))) (mvT hZ (hw _ (List.mem_of_getElem? (i := 7) rfl))) (mvT hZ (hw _ (List.mem_of_getElem? (i := 8) rfl))) (by decide) (backOf (W := 1) (rm1_STANDALONE l Z a0 hw [] W b2 q2 h2 n0 O2 g_b2 A2 f2_mode f2_epoch) hZ (hw _ (List.mem_of_getElem? (i := 8) rfl)) (hw _ (List.mem_of_getElem? (i := 5) rfl)) (by decide) (by decide)) (g := (mkF m 66 #[.val (.int p1), .val (.long q2), .second, .val (.int (0 : Int32)), .val (.ref w_n0), .val (.int (1 : Int32)), .unset] [(.long q2), (.ref w_n0), (.ref b2), (.ref b2)])) rfl (by rw [hml]; rfl) (Steps.refl _) (a := b2) (argsL := [(.ref w_n0), (.long q2)]) (rest := [(.ref b2)]) (lenOf pd_1 rfl) rfl (by show 2 * 0 + _ ≤ _; exact Nat.le_of_eq rfl) (hb hby at_66) (fun _ _ => ⟨rfl, e2, (by decide : 1 + 0 ≤ _), (by decide : 2 + 0 ≤ _)⟩)
  dsimp only [Pt.U, Pt.locs, Pt.cells, Pt.slots] at X3 l3 y3 z3 st3 hQ3
  subst l3 y3 z3
  obtain ⟨N3q, hP3⟩ := hQ3
  have N3 := Fr.app N0 N3q
  obtain ⟨rfl, Kp3, fp3_0, fp3_1, fp3_2⟩ := hP3
  have f3_0 : Exa Z T3.heap b2 "com/example/usher/usher/server/Role" := (A2).keep Kp3
  have O3 := O2.keep Kp3 (allS g_b2 all0)
  obtain ⟨cq4, kq4, q4a, q4b, q4c⟩ := isOf hZ rfl fp3_0
  obtain ⟨_, _, ⟨T4, L4, k4, n4⟩, -, X4, ⟨Lc4, hQ4, l4, y4, z4⟩, st4⟩ := X3.virtualBack hx (y := (⟨"com/example/usher/usher/server/Role", "servesSessions", "()Z"⟩ : MethodName)) (z := (⟨"com/example/usher/usher/server/Role", "servesSessions", "()Z"⟩ : MethodName)) hown (mvT hZ (hw _ (List.mem_of_getElem? (i := 21) rfl))) (mvT hZ (hw _ (List.mem_of_getElem? (i := 22) rfl))) (notFace_of_selects (args := #[]) (mvT hZ (hw _ (List.mem_of_getElem? (i := 24) rfl)))) (mvT hZ (hw _ (List.mem_of_getElem? (i := 24) rfl))) (mvT hZ (hw _ (List.mem_of_getElem? (i := 23) rfl))) (by decide) (backOf (W := 0) (rm4_STANDALONE l Z a0 hw [] W b2 T3.heap n0 O3 fp3_1) hZ (hw _ (List.mem_of_getElem? (i := 25) rfl)) (hw _ (List.mem_of_getElem? (i := 5) rfl)) (by decide) (by decide)) q4a q4c (g := (mkF m 73 #[.val (.int p1), .val (.long q2), .second, .val (.int (0 : Int32)), .val (.ref w_n0), .val (.int (1 : Int32)), .val (.ref b2)] [(.ref b2)])) rfl (by rw [hml]; rfl) (Steps.refl _) (argsL := []) (rest := []) (lenOf pd_2 rfl) rfl (by show 2 * 0 + _ ≤ _; exact Nat.le_of_eq rfl) (hb hby at_73) (fun _ _ => ⟨rfl, rfl, (by decide : 1 + 0 ≤ _), (by decide : 2 + 0 ≤ _)⟩)
  dsimp only [Pt.U, Pt.locs, Pt.cells, Pt.slots] at X4 l4 y4 z4 st4 hQ4
  subst l4 y4 z4
  obtain ⟨rfl, N4q, e4⟩ := hQ4
  have N4 := Fr.app N3 N4q
  obtain ⟨fs, hr, hrun, hended, hW, hsame⟩ := X4.leave (v := some (.int (1 : Int32))) (fun h => by rw [Bd.returns] at h; cases h)
  refine ⟨_, _, pre0 _ ?_, hrun, hended, _, _, rfl, ?_, ⟨_, rfl⟩, hW, hsame.mono (by decide) (by decide)⟩
  · show Steps p.tables e below (s₁.setTop (mkF m 0 #[.val (.int p1), .val (.long q2), .second, .unset, .unset, .unset, .unset] [])) _
    refine XS.iloadN X0.here hx rfl (hb hby at_0) rfl ?_
    show Steps p.tables e below (s₁.setTop (mkF m 1 #[.val (.int p1), .val (.long q2), .second, .unset, .unset, .unset, .unset] [(.int p1)])) _
    refine XS.iconst X0.here hx rfl (hb hby at_1) ?_
    show Steps p.tables e below (s₁.setTop (mkF m 2 #[.val (.int p1), .val (.long q2), .second, .unset, .unset, .unset, .unset] [(.int (3 : Int32)), (.int p1)])) _
    refine XS.iand X0.here hx rfl (hb hby at_2) rfl ?_
    show Steps p.tables e below (s₁.setTop (mkF m 3 #[.val (.int p1), .val (.long q2), .second, .unset, .unset, .unset, .unset] [(.int (p1 &&& (3 : Int32)))])) _
    rw [hk]
    show Steps p.tables e below (s₁.setTop (mkF m 3 #[.val (.int p1), .val (.long q2), .second, .unset, .unset, .unset, .unset] [(.int (0 : Int32))])) _
    refine XS.istoreN X0.here hx rfl (hb hby at_3) rfl (l' := #[.val (.int p1), .val (.long q2), .second, .val (.int (0 : Int32)), .unset, .unset, .unset]) rfl ?_
    show Steps p.tables e below (s₁.setTop (mkF m 4 #[.val (.int p1), .val (.long q2), .second, .val (.int (0 : Int32)), .unset, .unset, .unset] [])) _
    refine XS.iloadN X0.here hx rfl (hb hby at_4) rfl ?_
    show Steps p.tables e below (s₁.setTop (mkF m 5 #[.val (.int p1), .val (.long q2), .second, .val (.int (0 : Int32)), .unset, .unset, .unset] [(.int (0 : Int32))])) _
    refine XS.ifNo X0.here hx rfl (hb hby at_5) rfl ((if0 _ _).trans (teq ((by decide) : (0 : Int32) = (0 : Int32))).2) ?_
    show Steps p.tables e below (s₁.setTop (mkF m 8 #[.val (.int p1), .val (.long q2), .second, .val (.int (0 : Int32)), .unset, .unset, .unset] [])) _
    refine st1 _ ?_
    show Steps p.tables e below (T1.setTop (mkF m 11 #[.val (.int p1), .val (.long q2), .second, .val (.int (0 : Int32)), .unset, .unset, .unset] [(.ref w_n0)])) _
    refine XS.astore X1.here hx rfl (hb hby at_11) rfl rfl (l' := #[.val (.int p1), .val (.long q2), .second, .val (.int (0 : Int32)), .val (.ref w_n0), .unset, .unset]) rfl ?_
    show Steps p.tables e below (T1.setTop (mkF m 13 #[.val (.int p1), .val (.long q2), .second, .val (.int (0 : Int32)), .val (.ref w_n0), .unset, .unset] [])) _
    refine XS.iconst X1.here hx rfl (hb hby at_13) ?_
    show Steps p.tables e below (T1.setTop (mkF m 14 #[.val (.int p1), .val (.long q2), .second, .val (.int (0 : Int32)), .val (.ref w_n0), .unset, .unset] [(.int (1 : Int32))])) _
    refine XS.istore X1.here hx rfl (hb hby at_14) rfl (l' := #[.val (.int p1), .val (.long q2), .second, .val (.int (0 : Int32)), .val (.ref w_n0), .val (.int (1 : Int32)), .unset]) rfl ?_
    show Steps p.tables e below (T1.setTop (mkF m 16 #[.val (.int p1), .val (.long q2), .second, .val (.int (0 : Int32)), .val (.ref w_n0), .val (.int (1 : Int32)), .unset] [])) _
    refine XS.goto X1.here hx rfl (pc0 := 16) (pc' := 59) rfl (hb hby at_16) (by decide) (by decide) ?_
    show Steps p.tables e below (T1.setTop (mkF m 59 #[.val (.int p1), .val (.long q2), .second, .val (.int (0 : Int32)), .val (.ref w_n0), .val (.int (1 : Int32)), .unset] [])) _
    refine st2 _ ?_
    show Steps p.tables e below (T2.setTop (mkF m 62 #[.val (.int p1), .val (.long q2), .second, .val (.int (0 : Int32)), .val (.ref w_n0), .val (.int (1 : Int32)), .unset] [(.ref b2)])) _
    refine XS.dup X2.here hx rfl (hb hby at_62) rfl rfl ?_
    show Steps p.tables e below (T2.setTop (mkF m 63 #[.val (.int p1), .val (.long q2), .second, .val (.int (0 : Int32)), .val (.ref w_n0), .val (.int (1 : Int32)), .unset] [(.ref b2), (.ref b2)])) _
    refine XS.aload X2.here hx rfl (hb hby at_63) rfl rfl ?_
    show Steps p.tables e below (T2.setTop (mkF m 65 #[.val (.int p1), .val (.long q2), .second, .val (.int (0 : Int32)), .val (.ref w_n0), .val (.int (1 : Int32)), .unset] [(.ref w_n0), (.ref b2), (.ref b2)])) _
    refine XS.lloadN X2.here hx rfl (hb hby at_65) rfl ?_
    show Steps p.tables e below (T2.setTop (mkF m 66 #[.val (.int p1), .val (.long q2), .second, .val (.int (0 : Int32)), .val (.ref w_n0), .val (.int (1 : Int32)), .unset] [(.long q2), (.ref w_n0), (.ref b2), (.ref b2)])) _
    refine st3.trans ?_
    show Steps p.tables e below (T3.setTop (mkF m 69 #[.val (.int p1), .val (.long q2), .second, .val (.int (0 : Int32)), .val (.ref w_n0), .val (.int (1 : Int32)), .unset] [(.ref b2)])) _
    refine XS.astore X3.here hx rfl (hb hby at_69) rfl rfl (l' := #[.val (.int p1), .val (.long q2), .second, .val (.int (0 : Int32)), .val (.ref w_n0), .val (.int (1 : Int32)), .val (.ref b2)]) rfl ?_
    show Steps p.tables e below (T3.setTop (mkF m 71 #[.val (.int p1), .val (.long q2), .second, .val (.int (0 : Int32)), .val (.ref w_n0), .val (.int (1 : Int32)), .val (.ref b2)] [])) _
    refine XS.aload X3.here hx rfl (hb hby at_71) rfl rfl ?_
    show Steps p.tables e below (T3.setTop (mkF m 73 #[.val (.int p1), .val (.long q2), .second, .val (.int (0 : Int32)), .val (.ref w_n0), .val (.int (1 : Int32)), .val (.ref b2)] [(.ref b2)])) _
    refine st4.trans ?_
    show Steps p.tables e below (T4.setTop (mkF m 76 #[.val (.int p1), .val (.long q2), .second, .val (.int (0 : Int32)), .val (.ref w_n0), .val (.int (1 : Int32)), .val (.ref b2)] [(.int (1 : Int32))])) _
    refine XS.iload X4.here hx rfl (hb hby at_76) rfl ?_
    show Steps p.tables e below (T4.setTop (mkF m 78 #[.val (.int p1), .val (.long q2), .second, .val (.int (0 : Int32)), .val (.ref w_n0), .val (.int (1 : Int32)), .val (.ref b2)] [(.int (1 : Int32)), (.int (1 : Int32))])) _
    refine XS.icmpNo X4.here hx rfl (hb hby at_78) rfl (teq ((by decide) : (1 : Int32) = (1 : Int32))).2 ?_
    show Steps p.tables e below (T4.setTop (mkF m 81 #[.val (.int p1), .val (.long q2), .second, .val (.int (0 : Int32)), .val (.ref w_n0), .val (.int (1 : Int32)), .val (.ref b2)] [])) _
    refine XS.iconst X4.here hx rfl (hb hby at_81) ?_
    show Steps p.tables e below (T4.setTop (mkF m 82 #[.val (.int p1), .val (.long q2), .second, .val (.int (0 : Int32)), .val (.ref w_n0), .val (.int (1 : Int32)), .val (.ref b2)] [(.int (1 : Int32))])) _
    refine XS.goto X4.here hx rfl (pc0 := 82) (pc' := 86) rfl (hb hby at_82) (by decide) (by decide) ?_
    show Steps p.tables e below (T4.setTop (mkF m 86 #[.val (.int p1), .val (.long q2), .second, .val (.int (0 : Int32)), .val (.ref w_n0), .val (.int (1 : Int32)), .val (.ref b2)] [(.int (1 : Int32))])) _
    exact retN X4 hx (t := .boolean) Bd.returns (by simp) (hb hby at_86) hr
  · show Q0 n0 _ T4.heap _
    rw [e4]
    exact ⟨rfl, N4⟩
set_option maxRecDepth 65536 in
set_option maxHeartbeats 40000000 in
theorem rm0_1 (l : Launch) (Z : State) (a0 : Array Value) (hw : ∀ d ∈ tables_1, d.before a0 Z = true) (ws : List Jvm.Cond) {w_n0 : Addr} {w_n2 : Addr} {w_n3 : Addr} {w_n1 : Addr} (W : Wd Z w_n0 w_n2 w_n3 w_n1) (p1 : Int32) (q2 : Int64) (h0 : Heap) (n0 : Nat) (O0 : Old Z n0 h0) (hk : (p1 &&& (3 : Int32)) = (1 : Int32)) :
    MetFree l x (head1 (Jvm.Cond.code x code maxLocals ret :: ws) room_1) (fun a U => a = #[(.int p1), (.long q2)] ∧ Z.Warmed39 U.vm ∧ U.heap = h0) (fun _ _ _ _ _ => True) (fun _ U o U' => ∃ v L, o = .returned v ∧ Q0 n0 v U'.heap L ∧ FrameEnd U o U' L room_1.cells room_1.slots) := by
  have W' := W; obtain ⟨S_n0, E_n0, S_n2, E_n2, S_n3, E_n3, S_n1, E_n1, F_n0_ordinal, F_n2_ordinal, F_n3_ordinal, F_n1_ordinal⟩ := W'
  refine MetFree.of_bodySF (plainFor_of_name pn_0) hisR ?_
  intro p e s m args below meth c s₁ Bd hml0 hP hK
  obtain ⟨rfl, hZ, hh⟩ := hP
  have hx := Bd.exec
  have hby := Bd.bytes
  have hml : c.maxLocals = 7 := hml0
  have hown : s.vm.findClass "com/example/usher/usher/server/RoleServesSessionsPinLaw" = some m.cls := findClass_of_methodNamed Bd.named
  have hnm := (name_of_methodNamed Bd.named Bd.method).1
  have X0 : Stand p l e room_1 s m #[(.int p1), (.long q2)] below meth c s₁ [] 0 0 := Stand.of_body Bd
  have e0 : s₁.heap = h0 := by rw [← hh, Bd.state]; rfl
  have N0 := Fr.nil n0
  have pre0 : ∀ t, Steps p.tables e below (s₁.setTop (mkF m 0 #[.val (.int p1), .val (.long q2), .second, .unset, .unset, .unset, .unset] [])) t → Steps p.tables e below (s₁.setTop (entryFrame m #[(.int p1), (.long q2)] maxLocals)) t := fun t k => castTop (ef_0_3 m p1 q2) k
  obtain ⟨T1, X1, e1, st1⟩ := getS2 X0 hx hZ hown (host := "") (Or.inl (hw _ (List.mem_of_getElem? (i := 28) rfl))) Via.refl e0 (S_n3.ext O0.2) (g := (mkF m 24 #[.val (.int p1), .val (.long q2), .second, .val (.int (1 : Int32)), .unset, .unset, .unset] [])) rfl (hb hby at_24)
  obtain ⟨T2, h2, X2, e2, E2, A2, D2, U2, st2⟩ := newO X1 hx hZ hown (hw _ (List.mem_of_getElem? (i := 3) rfl)) (hw _ (List.mem_of_getElem? (i := 4) rfl)) (hw _ (List.mem_of_getElem? (i := 5) rfl)) e1 (g := (mkF m 59 #[.val (.int p1), .val (.long q2), .second, .val (.int (1 : Int32)), .val (.ref w_n3), .val (.int (1 : Int32)), .unset] [])) rfl (hb hby at_59) (by decide) (by decide)
  obtain ⟨b2, g2⟩ : ∃ z, z = h0.size := ⟨_, rfl⟩
  rw [← g2] at A2 D2 U2 st2
  have g_b2 : n0 ≤ b2 := by rw [g2]; exact O0.1 ▸ O0.2.1
  have O2 := O0.ext E2
  have f2_mode : Fld Z h2 b2 "com/example/usher/usher/server/Role" "mode" "Lcom/example/usher/usher/server/Role$Mode;" .null := D2 (Or.inr (hw _ (List.mem_of_getElem? (i := 18) rfl))) (ty := (.object "com/example/usher/usher/server/Role$Mode")) (by decide)
  have f2_epoch : Fld Z h2 b2 "com/example/usher/usher/server/Role" "epoch" "J" (.long (0 : Int64)) := D2 (Or.inr (hw _ (List.mem_of_getElem? (i := 20) rfl))) (ty := .long) (by decide)
  obtain ⟨_, _, ⟨T3, L3, k3, n3⟩, -, X3, ⟨Lc3, hQ3, l3, y3, z3⟩, st3⟩ := X2.specialBack hx (y := (⟨"com/example/usher/usher/server/Role", "<init>", "(Lcom/example/usher/usher/server/Role$Mode;J)V"⟩ : MethodName)) rfl hown (mvT hZ (hw _ (List.mem_of_getElem? (i := 6) rfl))) (mvT hZ (hw _ (List.mem_of_getElem? (i := 7) rfl))) (mvT hZ (hw _ (List.mem_of_getElem? (i := 8) rfl))) (by decide) (backOf (W := 1) (rm1_LEADER l Z a0 hw [] W b2 q2 h2 n0 O2 g_b2 A2 f2_mode f2_epoch) hZ (hw _ (List.mem_of_getElem? (i := 8) rfl)) (hw _ (List.mem_of_getElem? (i := 5) rfl)) (by decide) (by decide)) (g := (mkF m 66 #[.val (.int p1), .val (.long q2), .second, .val (.int (1 : Int32)), .val (.ref w_n3), .val (.int (1 : Int32)), .unset] [(.long q2), (.ref w_n3), (.ref b2), (.ref b2)])) rfl (by rw [hml]; rfl) (Steps.refl _) (a := b2) (argsL := [(.ref w_n3), (.long q2)]) (rest := [(.ref b2)]) (lenOf pd_1 rfl) rfl (by show 2 * 0 + _ ≤ _; exact Nat.le_of_eq rfl) (hb hby at_66) (fun _ _ => ⟨rfl, e2, (by decide : 1 + 0 ≤ _), (by decide : 2 + 0 ≤ _)⟩)
  dsimp only [Pt.U, Pt.locs, Pt.cells, Pt.slots] at X3 l3 y3 z3 st3 hQ3
  subst l3 y3 z3
  obtain ⟨N3q, hP3⟩ := hQ3
  have N3 := Fr.app N0 N3q
  obtain ⟨rfl, Kp3, fp3_0, fp3_1, fp3_2⟩ := hP3
  have f3_0 : Exa Z T3.heap b2 "com/example/usher/usher/server/Role" := (A2).keep Kp3
  have O3 := O2.keep Kp3 (allS g_b2 all0)
  obtain ⟨cq4, kq4, q4a, q4b, q4c⟩ := isOf hZ rfl fp3_0
  obtain ⟨_, _, ⟨T4, L4, k4, n4⟩, -, X4, ⟨Lc4, hQ4, l4, y4, z4⟩, st4⟩ := X3.virtualBack hx (y := (⟨"com/example/usher/usher/server/Role", "servesSessions", "()Z"⟩ : MethodName)) (z := (⟨"com/example/usher/usher/server/Role", "servesSessions", "()Z"⟩ : MethodName)) hown (mvT hZ (hw _ (List.mem_of_getElem? (i := 21) rfl))) (mvT hZ (hw _ (List.mem_of_getElem? (i := 22) rfl))) (notFace_of_selects (args := #[]) (mvT hZ (hw _ (List.mem_of_getElem? (i := 24) rfl)))) (mvT hZ (hw _ (List.mem_of_getElem? (i := 24) rfl))) (mvT hZ (hw _ (List.mem_of_getElem? (i := 23) rfl))) (by decide) (backOf (W := 0) (rm4_LEADER l Z a0 hw [] W b2 T3.heap n0 O3 fp3_1) hZ (hw _ (List.mem_of_getElem? (i := 25) rfl)) (hw _ (List.mem_of_getElem? (i := 5) rfl)) (by decide) (by decide)) q4a q4c (g := (mkF m 73 #[.val (.int p1), .val (.long q2), .second, .val (.int (1 : Int32)), .val (.ref w_n3), .val (.int (1 : Int32)), .val (.ref b2)] [(.ref b2)])) rfl (by rw [hml]; rfl) (Steps.refl _) (argsL := []) (rest := []) (lenOf pd_2 rfl) rfl (by show 2 * 0 + _ ≤ _; exact Nat.le_of_eq rfl) (hb hby at_73) (fun _ _ => ⟨rfl, rfl, (by decide : 1 + 0 ≤ _), (by decide : 2 + 0 ≤ _)⟩)
  dsimp only [Pt.U, Pt.locs, Pt.cells, Pt.slots] at X4 l4 y4 z4 st4 hQ4
  subst l4 y4 z4
  obtain ⟨rfl, N4q, e4⟩ := hQ4
  have N4 := Fr.app N3 N4q
  obtain ⟨fs, hr, hrun, hended, hW, hsame⟩ := X4.leave (v := some (.int (1 : Int32))) (fun h => by rw [Bd.returns] at h; cases h)
  refine ⟨_, _, pre0 _ ?_, hrun, hended, _, _, rfl, ?_, ⟨_, rfl⟩, hW, hsame.mono (by decide) (by decide)⟩
  · show Steps p.tables e below (s₁.setTop (mkF m 0 #[.val (.int p1), .val (.long q2), .second, .unset, .unset, .unset, .unset] [])) _
    refine XS.iloadN X0.here hx rfl (hb hby at_0) rfl ?_
    show Steps p.tables e below (s₁.setTop (mkF m 1 #[.val (.int p1), .val (.long q2), .second, .unset, .unset, .unset, .unset] [(.int p1)])) _
    refine XS.iconst X0.here hx rfl (hb hby at_1) ?_
    show Steps p.tables e below (s₁.setTop (mkF m 2 #[.val (.int p1), .val (.long q2), .second, .unset, .unset, .unset, .unset] [(.int (3 : Int32)), (.int p1)])) _
    refine XS.iand X0.here hx rfl (hb hby at_2) rfl ?_
    show Steps p.tables e below (s₁.setTop (mkF m 3 #[.val (.int p1), .val (.long q2), .second, .unset, .unset, .unset, .unset] [(.int (p1 &&& (3 : Int32)))])) _
    rw [hk]
    show Steps p.tables e below (s₁.setTop (mkF m 3 #[.val (.int p1), .val (.long q2), .second, .unset, .unset, .unset, .unset] [(.int (1 : Int32))])) _
    refine XS.istoreN X0.here hx rfl (hb hby at_3) rfl (l' := #[.val (.int p1), .val (.long q2), .second, .val (.int (1 : Int32)), .unset, .unset, .unset]) rfl ?_
    show Steps p.tables e below (s₁.setTop (mkF m 4 #[.val (.int p1), .val (.long q2), .second, .val (.int (1 : Int32)), .unset, .unset, .unset] [])) _
    refine XS.iloadN X0.here hx rfl (hb hby at_4) rfl ?_
    show Steps p.tables e below (s₁.setTop (mkF m 5 #[.val (.int p1), .val (.long q2), .second, .val (.int (1 : Int32)), .unset, .unset, .unset] [(.int (1 : Int32))])) _
    refine XS.ifYes X0.here hx rfl (pc0 := 5) (pc' := 19) rfl (hb hby at_5) rfl ((if0 _ _).trans (feq ((by decide) : ¬ ((1 : Int32) = (0 : Int32)))).2) (by decide) (by decide) ?_
    show Steps p.tables e below (s₁.setTop (mkF m 19 #[.val (.int p1), .val (.long q2), .second, .val (.int (1 : Int32)), .unset, .unset, .unset] [])) _
    refine XS.iloadN X0.here hx rfl (hb hby at_19) rfl ?_
    show Steps p.tables e below (s₁.setTop (mkF m 20 #[.val (.int p1), .val (.long q2), .second, .val (.int (1 : Int32)), .unset, .unset, .unset] [(.int (1 : Int32))])) _
    refine XS.iconst X0.here hx rfl (hb hby at_20) ?_
    show Steps p.tables e below (s₁.setTop (mkF m 21 #[.val (.int p1), .val (.long q2), .second, .val (.int (1 : Int32)), .unset, .unset, .unset] [(.int (1 : Int32)), (.int (1 : Int32))])) _
    refine XS.icmpNo X0.here hx rfl (hb hby at_21) rfl (teq ((by decide) : (1 : Int32) = (1 : Int32))).2 ?_
    show Steps p.tables e below (s₁.setTop (mkF m 24 #[.val (.int p1), .val (.long q2), .second, .val (.int (1 : Int32)), .unset, .unset, .unset] [])) _
    refine st1 _ ?_
    show Steps p.tables e below (T1.setTop (mkF m 27 #[.val (.int p1), .val (.long q2), .second, .val (.int (1 : Int32)), .unset, .unset, .unset] [(.ref w_n3)])) _
    refine XS.astore X1.here hx rfl (hb hby at_27) rfl rfl (l' := #[.val (.int p1), .val (.long q2), .second, .val (.int (1 : Int32)), .val (.ref w_n3), .unset, .unset]) rfl ?_
    show Steps p.tables e below (T1.setTop (mkF m 29 #[.val (.int p1), .val (.long q2), .second, .val (.int (1 : Int32)), .val (.ref w_n3), .unset, .unset] [])) _
    refine XS.iconst X1.here hx rfl (hb hby at_29) ?_
    show Steps p.tables e below (T1.setTop (mkF m 30 #[.val (.int p1), .val (.long q2), .second, .val (.int (1 : Int32)), .val (.ref w_n3), .unset, .unset] [(.int (1 : Int32))])) _
    refine XS.istore X1.here hx rfl (hb hby at_30) rfl (l' := #[.val (.int p1), .val (.long q2), .second, .val (.int (1 : Int32)), .val (.ref w_n3), .val (.int (1 : Int32)), .unset]) rfl ?_
    show Steps p.tables e below (T1.setTop (mkF m 32 #[.val (.int p1), .val (.long q2), .second, .val (.int (1 : Int32)), .val (.ref w_n3), .val (.int (1 : Int32)), .unset] [])) _
    refine XS.goto X1.here hx rfl (pc0 := 32) (pc' := 59) rfl (hb hby at_32) (by decide) (by decide) ?_
    show Steps p.tables e below (T1.setTop (mkF m 59 #[.val (.int p1), .val (.long q2), .second, .val (.int (1 : Int32)), .val (.ref w_n3), .val (.int (1 : Int32)), .unset] [])) _
    refine st2 _ ?_
    show Steps p.tables e below (T2.setTop (mkF m 62 #[.val (.int p1), .val (.long q2), .second, .val (.int (1 : Int32)), .val (.ref w_n3), .val (.int (1 : Int32)), .unset] [(.ref b2)])) _
    refine XS.dup X2.here hx rfl (hb hby at_62) rfl rfl ?_
    show Steps p.tables e below (T2.setTop (mkF m 63 #[.val (.int p1), .val (.long q2), .second, .val (.int (1 : Int32)), .val (.ref w_n3), .val (.int (1 : Int32)), .unset] [(.ref b2), (.ref b2)])) _
    refine XS.aload X2.here hx rfl (hb hby at_63) rfl rfl ?_
    show Steps p.tables e below (T2.setTop (mkF m 65 #[.val (.int p1), .val (.long q2), .second, .val (.int (1 : Int32)), .val (.ref w_n3), .val (.int (1 : Int32)), .unset] [(.ref w_n3), (.ref b2), (.ref b2)])) _
    refine XS.lloadN X2.here hx rfl (hb hby at_65) rfl ?_
    show Steps p.tables e below (T2.setTop (mkF m 66 #[.val (.int p1), .val (.long q2), .second, .val (.int (1 : Int32)), .val (.ref w_n3), .val (.int (1 : Int32)), .unset] [(.long q2), (.ref w_n3), (.ref b2), (.ref b2)])) _
    refine st3.trans ?_
    show Steps p.tables e below (T3.setTop (mkF m 69 #[.val (.int p1), .val (.long q2), .second, .val (.int (1 : Int32)), .val (.ref w_n3), .val (.int (1 : Int32)), .unset] [(.ref b2)])) _
    refine XS.astore X3.here hx rfl (hb hby at_69) rfl rfl (l' := #[.val (.int p1), .val (.long q2), .second, .val (.int (1 : Int32)), .val (.ref w_n3), .val (.int (1 : Int32)), .val (.ref b2)]) rfl ?_
    show Steps p.tables e below (T3.setTop (mkF m 71 #[.val (.int p1), .val (.long q2), .second, .val (.int (1 : Int32)), .val (.ref w_n3), .val (.int (1 : Int32)), .val (.ref b2)] [])) _
    refine XS.aload X3.here hx rfl (hb hby at_71) rfl rfl ?_
    show Steps p.tables e below (T3.setTop (mkF m 73 #[.val (.int p1), .val (.long q2), .second, .val (.int (1 : Int32)), .val (.ref w_n3), .val (.int (1 : Int32)), .val (.ref b2)] [(.ref b2)])) _
    refine st4.trans ?_
    show Steps p.tables e below (T4.setTop (mkF m 76 #[.val (.int p1), .val (.long q2), .second, .val (.int (1 : Int32)), .val (.ref w_n3), .val (.int (1 : Int32)), .val (.ref b2)] [(.int (1 : Int32))])) _
    refine XS.iload X4.here hx rfl (hb hby at_76) rfl ?_
    show Steps p.tables e below (T4.setTop (mkF m 78 #[.val (.int p1), .val (.long q2), .second, .val (.int (1 : Int32)), .val (.ref w_n3), .val (.int (1 : Int32)), .val (.ref b2)] [(.int (1 : Int32)), (.int (1 : Int32))])) _
    refine XS.icmpNo X4.here hx rfl (hb hby at_78) rfl (teq ((by decide) : (1 : Int32) = (1 : Int32))).2 ?_
    show Steps p.tables e below (T4.setTop (mkF m 81 #[.val (.int p1), .val (.long q2), .second, .val (.int (1 : Int32)), .val (.ref w_n3), .val (.int (1 : Int32)), .val (.ref b2)] [])) _
    refine XS.iconst X4.here hx rfl (hb hby at_81) ?_
    show Steps p.tables e below (T4.setTop (mkF m 82 #[.val (.int p1), .val (.long q2), .second, .val (.int (1 : Int32)), .val (.ref w_n3), .val (.int (1 : Int32)), .val (.ref b2)] [(.int (1 : Int32))])) _
    refine XS.goto X4.here hx rfl (pc0 := 82) (pc' := 86) rfl (hb hby at_82) (by decide) (by decide) ?_
    show Steps p.tables e below (T4.setTop (mkF m 86 #[.val (.int p1), .val (.long q2), .second, .val (.int (1 : Int32)), .val (.ref w_n3), .val (.int (1 : Int32)), .val (.ref b2)] [(.int (1 : Int32))])) _
    exact retN X4 hx (t := .boolean) Bd.returns (by simp) (hb hby at_86) hr
  · show Q0 n0 _ T4.heap _
    rw [e4]
    exact ⟨rfl, N4⟩
set_option maxRecDepth 65536 in
set_option maxHeartbeats 40000000 in
theorem rm0_2 (l : Launch) (Z : State) (a0 : Array Value) (hw : ∀ d ∈ tables_1, d.before a0 Z = true) (ws : List Jvm.Cond) {w_n0 : Addr} {w_n2 : Addr} {w_n3 : Addr} {w_n1 : Addr} (W : Wd Z w_n0 w_n2 w_n3 w_n1) (p1 : Int32) (q2 : Int64) (h0 : Heap) (n0 : Nat) (O0 : Old Z n0 h0) (hk : (p1 &&& (3 : Int32)) = (2 : Int32)) :
    MetFree l x (head1 (Jvm.Cond.code x code maxLocals ret :: ws) room_1) (fun a U => a = #[(.int p1), (.long q2)] ∧ Z.Warmed39 U.vm ∧ U.heap = h0) (fun _ _ _ _ _ => True) (fun _ U o U' => ∃ v L, o = .returned v ∧ Q0 n0 v U'.heap L ∧ FrameEnd U o U' L room_1.cells room_1.slots) := by
  have W' := W; obtain ⟨S_n0, E_n0, S_n2, E_n2, S_n3, E_n3, S_n1, E_n1, F_n0_ordinal, F_n2_ordinal, F_n3_ordinal, F_n1_ordinal⟩ := W'
  refine MetFree.of_bodySF (plainFor_of_name pn_0) hisR ?_
  intro p e s m args below meth c s₁ Bd hml0 hP hK
  obtain ⟨rfl, hZ, hh⟩ := hP
  have hx := Bd.exec
  have hby := Bd.bytes
  have hml : c.maxLocals = 7 := hml0
  have hown : s.vm.findClass "com/example/usher/usher/server/RoleServesSessionsPinLaw" = some m.cls := findClass_of_methodNamed Bd.named
  have hnm := (name_of_methodNamed Bd.named Bd.method).1
  have X0 : Stand p l e room_1 s m #[(.int p1), (.long q2)] below meth c s₁ [] 0 0 := Stand.of_body Bd
  have e0 : s₁.heap = h0 := by rw [← hh, Bd.state]; rfl
  have N0 := Fr.nil n0
  have pre0 : ∀ t, Steps p.tables e below (s₁.setTop (mkF m 0 #[.val (.int p1), .val (.long q2), .second, .unset, .unset, .unset, .unset] [])) t → Steps p.tables e below (s₁.setTop (entryFrame m #[(.int p1), (.long q2)] maxLocals)) t := fun t k => castTop (ef_0_3 m p1 q2) k
  obtain ⟨T1, X1, e1, st1⟩ := getS2 X0 hx hZ hown (host := "") (Or.inl (hw _ (List.mem_of_getElem? (i := 30) rfl))) Via.refl e0 (S_n1.ext O0.2) (g := (mkF m 40 #[.val (.int p1), .val (.long q2), .second, .val (.int (2 : Int32)), .unset, .unset, .unset] [])) rfl (hb hby at_40)
  obtain ⟨T2, h2, X2, e2, E2, A2, D2, U2, st2⟩ := newO X1 hx hZ hown (hw _ (List.mem_of_getElem? (i := 3) rfl)) (hw _ (List.mem_of_getElem? (i := 4) rfl)) (hw _ (List.mem_of_getElem? (i := 5) rfl)) e1 (g := (mkF m 59 #[.val (.int p1), .val (.long q2), .second, .val (.int (2 : Int32)), .val (.ref w_n1), .val (.int (1 : Int32)), .unset] [])) rfl (hb hby at_59) (by decide) (by decide)
  obtain ⟨b2, g2⟩ : ∃ z, z = h0.size := ⟨_, rfl⟩
  rw [← g2] at A2 D2 U2 st2
  have g_b2 : n0 ≤ b2 := by rw [g2]; exact O0.1 ▸ O0.2.1
  have O2 := O0.ext E2
  have f2_mode : Fld Z h2 b2 "com/example/usher/usher/server/Role" "mode" "Lcom/example/usher/usher/server/Role$Mode;" .null := D2 (Or.inr (hw _ (List.mem_of_getElem? (i := 18) rfl))) (ty := (.object "com/example/usher/usher/server/Role$Mode")) (by decide)
  have f2_epoch : Fld Z h2 b2 "com/example/usher/usher/server/Role" "epoch" "J" (.long (0 : Int64)) := D2 (Or.inr (hw _ (List.mem_of_getElem? (i := 20) rfl))) (ty := .long) (by decide)
  obtain ⟨_, _, ⟨T3, L3, k3, n3⟩, -, X3, ⟨Lc3, hQ3, l3, y3, z3⟩, st3⟩ := X2.specialBack hx (y := (⟨"com/example/usher/usher/server/Role", "<init>", "(Lcom/example/usher/usher/server/Role$Mode;J)V"⟩ : MethodName)) rfl hown (mvT hZ (hw _ (List.mem_of_getElem? (i := 6) rfl))) (mvT hZ (hw _ (List.mem_of_getElem? (i := 7) rfl))) (mvT hZ (hw _ (List.mem_of_getElem? (i := 8) rfl))) (by decide) (backOf (W := 1) (rm1_FOLLOWER l Z a0 hw [] W b2 q2 h2 n0 O2 g_b2 A2 f2_mode f2_epoch) hZ (hw _ (List.mem_of_getElem? (i := 8) rfl)) (hw _ (List.mem_of_getElem? (i := 5) rfl)) (by decide) (by decide)) (g := (mkF m 66 #[.val (.int p1), .val (.long q2), .second, .val (.int (2 : Int32)), .val (.ref w_n1), .val (.int (1 : Int32)), .unset] [(.long q2), (.ref w_n1), (.ref b2), (.ref b2)])) rfl (by rw [hml]; rfl) (Steps.refl _) (a := b2) (argsL := [(.ref w_n1), (.long q2)]) (rest := [(.ref b2)]) (lenOf pd_1 rfl) rfl (by show 2 * 0 + _ ≤ _; exact Nat.le_of_eq rfl) (hb hby at_66) (fun _ _ => ⟨rfl, e2, (by decide : 1 + 0 ≤ _), (by decide : 2 + 0 ≤ _)⟩)
  dsimp only [Pt.U, Pt.locs, Pt.cells, Pt.slots] at X3 l3 y3 z3 st3 hQ3
  subst l3 y3 z3
  obtain ⟨N3q, hP3⟩ := hQ3
  have N3 := Fr.app N0 N3q
  obtain ⟨rfl, Kp3, fp3_0, fp3_1, fp3_2⟩ := hP3
  have f3_0 : Exa Z T3.heap b2 "com/example/usher/usher/server/Role" := (A2).keep Kp3
  have O3 := O2.keep Kp3 (allS g_b2 all0)
  obtain ⟨cq4, kq4, q4a, q4b, q4c⟩ := isOf hZ rfl fp3_0
  obtain ⟨_, _, ⟨T4, L4, k4, n4⟩, -, X4, ⟨Lc4, hQ4, l4, y4, z4⟩, st4⟩ := X3.virtualBack hx (y := (⟨"com/example/usher/usher/server/Role", "servesSessions", "()Z"⟩ : MethodName)) (z := (⟨"com/example/usher/usher/server/Role", "servesSessions", "()Z"⟩ : MethodName)) hown (mvT hZ (hw _ (List.mem_of_getElem? (i := 21) rfl))) (mvT hZ (hw _ (List.mem_of_getElem? (i := 22) rfl))) (notFace_of_selects (args := #[]) (mvT hZ (hw _ (List.mem_of_getElem? (i := 24) rfl)))) (mvT hZ (hw _ (List.mem_of_getElem? (i := 24) rfl))) (mvT hZ (hw _ (List.mem_of_getElem? (i := 23) rfl))) (by decide) (backOf (W := 0) (rm4_FOLLOWER l Z a0 hw [] W b2 T3.heap n0 O3 fp3_1) hZ (hw _ (List.mem_of_getElem? (i := 25) rfl)) (hw _ (List.mem_of_getElem? (i := 5) rfl)) (by decide) (by decide)) q4a q4c (g := (mkF m 73 #[.val (.int p1), .val (.long q2), .second, .val (.int (2 : Int32)), .val (.ref w_n1), .val (.int (1 : Int32)), .val (.ref b2)] [(.ref b2)])) rfl (by rw [hml]; rfl) (Steps.refl _) (argsL := []) (rest := []) (lenOf pd_2 rfl) rfl (by show 2 * 0 + _ ≤ _; exact Nat.le_of_eq rfl) (hb hby at_73) (fun _ _ => ⟨rfl, rfl, (by decide : 1 + 0 ≤ _), (by decide : 2 + 0 ≤ _)⟩)
  dsimp only [Pt.U, Pt.locs, Pt.cells, Pt.slots] at X4 l4 y4 z4 st4 hQ4
  subst l4 y4 z4
  obtain ⟨rfl, N4q, e4⟩ := hQ4
  have N4 := Fr.app N3 N4q
  obtain ⟨fs, hr, hrun, hended, hW, hsame⟩ := X4.leave (v := some (.int (1 : Int32))) (fun h => by rw [Bd.returns] at h; cases h)
  refine ⟨_, _, pre0 _ ?_, hrun, hended, _, _, rfl, ?_, ⟨_, rfl⟩, hW, hsame.mono (by decide) (by decide)⟩
  · show Steps p.tables e below (s₁.setTop (mkF m 0 #[.val (.int p1), .val (.long q2), .second, .unset, .unset, .unset, .unset] [])) _
    refine XS.iloadN X0.here hx rfl (hb hby at_0) rfl ?_
    show Steps p.tables e below (s₁.setTop (mkF m 1 #[.val (.int p1), .val (.long q2), .second, .unset, .unset, .unset, .unset] [(.int p1)])) _
    refine XS.iconst X0.here hx rfl (hb hby at_1) ?_
    show Steps p.tables e below (s₁.setTop (mkF m 2 #[.val (.int p1), .val (.long q2), .second, .unset, .unset, .unset, .unset] [(.int (3 : Int32)), (.int p1)])) _
    refine XS.iand X0.here hx rfl (hb hby at_2) rfl ?_
    show Steps p.tables e below (s₁.setTop (mkF m 3 #[.val (.int p1), .val (.long q2), .second, .unset, .unset, .unset, .unset] [(.int (p1 &&& (3 : Int32)))])) _
    rw [hk]
    show Steps p.tables e below (s₁.setTop (mkF m 3 #[.val (.int p1), .val (.long q2), .second, .unset, .unset, .unset, .unset] [(.int (2 : Int32))])) _
    refine XS.istoreN X0.here hx rfl (hb hby at_3) rfl (l' := #[.val (.int p1), .val (.long q2), .second, .val (.int (2 : Int32)), .unset, .unset, .unset]) rfl ?_
    show Steps p.tables e below (s₁.setTop (mkF m 4 #[.val (.int p1), .val (.long q2), .second, .val (.int (2 : Int32)), .unset, .unset, .unset] [])) _
    refine XS.iloadN X0.here hx rfl (hb hby at_4) rfl ?_
    show Steps p.tables e below (s₁.setTop (mkF m 5 #[.val (.int p1), .val (.long q2), .second, .val (.int (2 : Int32)), .unset, .unset, .unset] [(.int (2 : Int32))])) _
    refine XS.ifYes X0.here hx rfl (pc0 := 5) (pc' := 19) rfl (hb hby at_5) rfl ((if0 _ _).trans (feq ((by decide) : ¬ ((2 : Int32) = (0 : Int32)))).2) (by decide) (by decide) ?_
    show Steps p.tables e below (s₁.setTop (mkF m 19 #[.val (.int p1), .val (.long q2), .second, .val (.int (2 : Int32)), .unset, .unset, .unset] [])) _
    refine XS.iloadN X0.here hx rfl (hb hby at_19) rfl ?_
    show Steps p.tables e below (s₁.setTop (mkF m 20 #[.val (.int p1), .val (.long q2), .second, .val (.int (2 : Int32)), .unset, .unset, .unset] [(.int (2 : Int32))])) _
    refine XS.iconst X0.here hx rfl (hb hby at_20) ?_
    show Steps p.tables e below (s₁.setTop (mkF m 21 #[.val (.int p1), .val (.long q2), .second, .val (.int (2 : Int32)), .unset, .unset, .unset] [(.int (1 : Int32)), (.int (2 : Int32))])) _
    refine XS.icmpYes X0.here hx rfl (pc0 := 21) (pc' := 35) rfl (hb hby at_21) rfl (feq ((by decide) : ¬ ((2 : Int32) = (1 : Int32)))).2 (by decide) (by decide) ?_
    show Steps p.tables e below (s₁.setTop (mkF m 35 #[.val (.int p1), .val (.long q2), .second, .val (.int (2 : Int32)), .unset, .unset, .unset] [])) _
    refine XS.iloadN X0.here hx rfl (hb hby at_35) rfl ?_
    show Steps p.tables e below (s₁.setTop (mkF m 36 #[.val (.int p1), .val (.long q2), .second, .val (.int (2 : Int32)), .unset, .unset, .unset] [(.int (2 : Int32))])) _
    refine XS.iconst X0.here hx rfl (hb hby at_36) ?_
    show Steps p.tables e below (s₁.setTop (mkF m 37 #[.val (.int p1), .val (.long q2), .second, .val (.int (2 : Int32)), .unset, .unset, .unset] [(.int (2 : Int32)), (.int (2 : Int32))])) _
    refine XS.icmpNo X0.here hx rfl (hb hby at_37) rfl (teq ((by decide) : (2 : Int32) = (2 : Int32))).2 ?_
    show Steps p.tables e below (s₁.setTop (mkF m 40 #[.val (.int p1), .val (.long q2), .second, .val (.int (2 : Int32)), .unset, .unset, .unset] [])) _
    refine st1 _ ?_
    show Steps p.tables e below (T1.setTop (mkF m 43 #[.val (.int p1), .val (.long q2), .second, .val (.int (2 : Int32)), .unset, .unset, .unset] [(.ref w_n1)])) _
    refine XS.astore X1.here hx rfl (hb hby at_43) rfl rfl (l' := #[.val (.int p1), .val (.long q2), .second, .val (.int (2 : Int32)), .val (.ref w_n1), .unset, .unset]) rfl ?_
    show Steps p.tables e below (T1.setTop (mkF m 45 #[.val (.int p1), .val (.long q2), .second, .val (.int (2 : Int32)), .val (.ref w_n1), .unset, .unset] [])) _
    refine XS.iconst X1.here hx rfl (hb hby at_45) ?_
    show Steps p.tables e below (T1.setTop (mkF m 46 #[.val (.int p1), .val (.long q2), .second, .val (.int (2 : Int32)), .val (.ref w_n1), .unset, .unset] [(.int (1 : Int32))])) _
    refine XS.istore X1.here hx rfl (hb hby at_46) rfl (l' := #[.val (.int p1), .val (.long q2), .second, .val (.int (2 : Int32)), .val (.ref w_n1), .val (.int (1 : Int32)), .unset]) rfl ?_
    show Steps p.tables e below (T1.setTop (mkF m 48 #[.val (.int p1), .val (.long q2), .second, .val (.int (2 : Int32)), .val (.ref w_n1), .val (.int (1 : Int32)), .unset] [])) _
    refine XS.goto X1.here hx rfl (pc0 := 48) (pc' := 59) rfl (hb hby at_48) (by decide) (by decide) ?_
    show Steps p.tables e below (T1.setTop (mkF m 59 #[.val (.int p1), .val (.long q2), .second, .val (.int (2 : Int32)), .val (.ref w_n1), .val (.int (1 : Int32)), .unset] [])) _
    refine st2 _ ?_
    show Steps p.tables e below (T2.setTop (mkF m 62 #[.val (.int p1), .val (.long q2), .second, .val (.int (2 : Int32)), .val (.ref w_n1), .val (.int (1 : Int32)), .unset] [(.ref b2)])) _
    refine XS.dup X2.here hx rfl (hb hby at_62) rfl rfl ?_
    show Steps p.tables e below (T2.setTop (mkF m 63 #[.val (.int p1), .val (.long q2), .second, .val (.int (2 : Int32)), .val (.ref w_n1), .val (.int (1 : Int32)), .unset] [(.ref b2), (.ref b2)])) _
    refine XS.aload X2.here hx rfl (hb hby at_63) rfl rfl ?_
    show Steps p.tables e below (T2.setTop (mkF m 65 #[.val (.int p1), .val (.long q2), .second, .val (.int (2 : Int32)), .val (.ref w_n1), .val (.int (1 : Int32)), .unset] [(.ref w_n1), (.ref b2), (.ref b2)])) _
    refine XS.lloadN X2.here hx rfl (hb hby at_65) rfl ?_
    show Steps p.tables e below (T2.setTop (mkF m 66 #[.val (.int p1), .val (.long q2), .second, .val (.int (2 : Int32)), .val (.ref w_n1), .val (.int (1 : Int32)), .unset] [(.long q2), (.ref w_n1), (.ref b2), (.ref b2)])) _
    refine st3.trans ?_
    show Steps p.tables e below (T3.setTop (mkF m 69 #[.val (.int p1), .val (.long q2), .second, .val (.int (2 : Int32)), .val (.ref w_n1), .val (.int (1 : Int32)), .unset] [(.ref b2)])) _
    refine XS.astore X3.here hx rfl (hb hby at_69) rfl rfl (l' := #[.val (.int p1), .val (.long q2), .second, .val (.int (2 : Int32)), .val (.ref w_n1), .val (.int (1 : Int32)), .val (.ref b2)]) rfl ?_
    show Steps p.tables e below (T3.setTop (mkF m 71 #[.val (.int p1), .val (.long q2), .second, .val (.int (2 : Int32)), .val (.ref w_n1), .val (.int (1 : Int32)), .val (.ref b2)] [])) _
    refine XS.aload X3.here hx rfl (hb hby at_71) rfl rfl ?_
    show Steps p.tables e below (T3.setTop (mkF m 73 #[.val (.int p1), .val (.long q2), .second, .val (.int (2 : Int32)), .val (.ref w_n1), .val (.int (1 : Int32)), .val (.ref b2)] [(.ref b2)])) _
    refine st4.trans ?_
    show Steps p.tables e below (T4.setTop (mkF m 76 #[.val (.int p1), .val (.long q2), .second, .val (.int (2 : Int32)), .val (.ref w_n1), .val (.int (1 : Int32)), .val (.ref b2)] [(.int (1 : Int32))])) _
    refine XS.iload X4.here hx rfl (hb hby at_76) rfl ?_
    show Steps p.tables e below (T4.setTop (mkF m 78 #[.val (.int p1), .val (.long q2), .second, .val (.int (2 : Int32)), .val (.ref w_n1), .val (.int (1 : Int32)), .val (.ref b2)] [(.int (1 : Int32)), (.int (1 : Int32))])) _
    refine XS.icmpNo X4.here hx rfl (hb hby at_78) rfl (teq ((by decide) : (1 : Int32) = (1 : Int32))).2 ?_
    show Steps p.tables e below (T4.setTop (mkF m 81 #[.val (.int p1), .val (.long q2), .second, .val (.int (2 : Int32)), .val (.ref w_n1), .val (.int (1 : Int32)), .val (.ref b2)] [])) _
    refine XS.iconst X4.here hx rfl (hb hby at_81) ?_
    show Steps p.tables e below (T4.setTop (mkF m 82 #[.val (.int p1), .val (.long q2), .second, .val (.int (2 : Int32)), .val (.ref w_n1), .val (.int (1 : Int32)), .val (.ref b2)] [(.int (1 : Int32))])) _
    refine XS.goto X4.here hx rfl (pc0 := 82) (pc' := 86) rfl (hb hby at_82) (by decide) (by decide) ?_
    show Steps p.tables e below (T4.setTop (mkF m 86 #[.val (.int p1), .val (.long q2), .second, .val (.int (2 : Int32)), .val (.ref w_n1), .val (.int (1 : Int32)), .val (.ref b2)] [(.int (1 : Int32))])) _
    exact retN X4 hx (t := .boolean) Bd.returns (by simp) (hb hby at_86) hr
  · show Q0 n0 _ T4.heap _
    rw [e4]
    exact ⟨rfl, N4⟩
set_option maxRecDepth 65536 in
set_option maxHeartbeats 40000000 in
theorem rm0_3 (l : Launch) (Z : State) (a0 : Array Value) (hw : ∀ d ∈ tables_1, d.before a0 Z = true) (ws : List Jvm.Cond) {w_n0 : Addr} {w_n2 : Addr} {w_n3 : Addr} {w_n1 : Addr} (W : Wd Z w_n0 w_n2 w_n3 w_n1) (p1 : Int32) (q2 : Int64) (h0 : Heap) (n0 : Nat) (O0 : Old Z n0 h0) (hk : (p1 &&& (3 : Int32)) = (3 : Int32)) :
    MetFree l x (head1 (Jvm.Cond.code x code maxLocals ret :: ws) room_1) (fun a U => a = #[(.int p1), (.long q2)] ∧ Z.Warmed39 U.vm ∧ U.heap = h0) (fun _ _ _ _ _ => True) (fun _ U o U' => ∃ v L, o = .returned v ∧ Q0 n0 v U'.heap L ∧ FrameEnd U o U' L room_1.cells room_1.slots) := by
  have W' := W; obtain ⟨S_n0, E_n0, S_n2, E_n2, S_n3, E_n3, S_n1, E_n1, F_n0_ordinal, F_n2_ordinal, F_n3_ordinal, F_n1_ordinal⟩ := W'
  refine MetFree.of_bodySF (plainFor_of_name pn_0) hisR ?_
  intro p e s m args below meth c s₁ Bd hml0 hP hK
  obtain ⟨rfl, hZ, hh⟩ := hP
  have hx := Bd.exec
  have hby := Bd.bytes
  have hml : c.maxLocals = 7 := hml0
  have hown : s.vm.findClass "com/example/usher/usher/server/RoleServesSessionsPinLaw" = some m.cls := findClass_of_methodNamed Bd.named
  have hnm := (name_of_methodNamed Bd.named Bd.method).1
  have X0 : Stand p l e room_1 s m #[(.int p1), (.long q2)] below meth c s₁ [] 0 0 := Stand.of_body Bd
  have e0 : s₁.heap = h0 := by rw [← hh, Bd.state]; rfl
  have N0 := Fr.nil n0
  have pre0 : ∀ t, Steps p.tables e below (s₁.setTop (mkF m 0 #[.val (.int p1), .val (.long q2), .second, .unset, .unset, .unset, .unset] [])) t → Steps p.tables e below (s₁.setTop (entryFrame m #[(.int p1), (.long q2)] maxLocals)) t := fun t k => castTop (ef_0_3 m p1 q2) k
  obtain ⟨T1, X1, e1, st1⟩ := getS2 X0 hx hZ hown (host := "") (Or.inl (hw _ (List.mem_of_getElem? (i := 32) rfl))) Via.refl e0 (S_n2.ext O0.2) (g := (mkF m 51 #[.val (.int p1), .val (.long q2), .second, .val (.int (3 : Int32)), .unset, .unset, .unset] [])) rfl (hb hby at_51)
  obtain ⟨T2, h2, X2, e2, E2, A2, D2, U2, st2⟩ := newO X1 hx hZ hown (hw _ (List.mem_of_getElem? (i := 3) rfl)) (hw _ (List.mem_of_getElem? (i := 4) rfl)) (hw _ (List.mem_of_getElem? (i := 5) rfl)) e1 (g := (mkF m 59 #[.val (.int p1), .val (.long q2), .second, .val (.int (3 : Int32)), .val (.ref w_n2), .val (.int (0 : Int32)), .unset] [])) rfl (hb hby at_59) (by decide) (by decide)
  obtain ⟨b2, g2⟩ : ∃ z, z = h0.size := ⟨_, rfl⟩
  rw [← g2] at A2 D2 U2 st2
  have g_b2 : n0 ≤ b2 := by rw [g2]; exact O0.1 ▸ O0.2.1
  have O2 := O0.ext E2
  have f2_mode : Fld Z h2 b2 "com/example/usher/usher/server/Role" "mode" "Lcom/example/usher/usher/server/Role$Mode;" .null := D2 (Or.inr (hw _ (List.mem_of_getElem? (i := 18) rfl))) (ty := (.object "com/example/usher/usher/server/Role$Mode")) (by decide)
  have f2_epoch : Fld Z h2 b2 "com/example/usher/usher/server/Role" "epoch" "J" (.long (0 : Int64)) := D2 (Or.inr (hw _ (List.mem_of_getElem? (i := 20) rfl))) (ty := .long) (by decide)
  obtain ⟨_, _, ⟨T3, L3, k3, n3⟩, -, X3, ⟨Lc3, hQ3, l3, y3, z3⟩, st3⟩ := X2.specialBack hx (y := (⟨"com/example/usher/usher/server/Role", "<init>", "(Lcom/example/usher/usher/server/Role$Mode;J)V"⟩ : MethodName)) rfl hown (mvT hZ (hw _ (List.mem_of_getElem? (i := 6) rfl))) (mvT hZ (hw _ (List.mem_of_getElem? (i := 7) rfl))) (mvT hZ (hw _ (List.mem_of_getElem? (i := 8) rfl))) (by decide) (backOf (W := 1) (rm1_LOOKING l Z a0 hw [] W b2 q2 h2 n0 O2 g_b2 A2 f2_mode f2_epoch) hZ (hw _ (List.mem_of_getElem? (i := 8) rfl)) (hw _ (List.mem_of_getElem? (i := 5) rfl)) (by decide) (by decide)) (g := (mkF m 66 #[.val (.int p1), .val (.long q2), .second, .val (.int (3 : Int32)), .val (.ref w_n2), .val (.int (0 : Int32)), .unset] [(.long q2), (.ref w_n2), (.ref b2), (.ref b2)])) rfl (by rw [hml]; rfl) (Steps.refl _) (a := b2) (argsL := [(.ref w_n2), (.long q2)]) (rest := [(.ref b2)]) (lenOf pd_1 rfl) rfl (by show 2 * 0 + _ ≤ _; exact Nat.le_of_eq rfl) (hb hby at_66) (fun _ _ => ⟨rfl, e2, (by decide : 1 + 0 ≤ _), (by decide : 2 + 0 ≤ _)⟩)
  dsimp only [Pt.U, Pt.locs, Pt.cells, Pt.slots] at X3 l3 y3 z3 st3 hQ3
  subst l3 y3 z3
  obtain ⟨N3q, hP3⟩ := hQ3
  have N3 := Fr.app N0 N3q
  obtain ⟨rfl, Kp3, fp3_0, fp3_1, fp3_2⟩ := hP3
  have f3_0 : Exa Z T3.heap b2 "com/example/usher/usher/server/Role" := (A2).keep Kp3
  have O3 := O2.keep Kp3 (allS g_b2 all0)
  obtain ⟨cq4, kq4, q4a, q4b, q4c⟩ := isOf hZ rfl fp3_0
  obtain ⟨_, _, ⟨T4, L4, k4, n4⟩, -, X4, ⟨Lc4, hQ4, l4, y4, z4⟩, st4⟩ := X3.virtualBack hx (y := (⟨"com/example/usher/usher/server/Role", "servesSessions", "()Z"⟩ : MethodName)) (z := (⟨"com/example/usher/usher/server/Role", "servesSessions", "()Z"⟩ : MethodName)) hown (mvT hZ (hw _ (List.mem_of_getElem? (i := 21) rfl))) (mvT hZ (hw _ (List.mem_of_getElem? (i := 22) rfl))) (notFace_of_selects (args := #[]) (mvT hZ (hw _ (List.mem_of_getElem? (i := 24) rfl)))) (mvT hZ (hw _ (List.mem_of_getElem? (i := 24) rfl))) (mvT hZ (hw _ (List.mem_of_getElem? (i := 23) rfl))) (by decide) (backOf (W := 0) (rm4_LOOKING l Z a0 hw [] W b2 T3.heap n0 O3 fp3_1) hZ (hw _ (List.mem_of_getElem? (i := 25) rfl)) (hw _ (List.mem_of_getElem? (i := 5) rfl)) (by decide) (by decide)) q4a q4c (g := (mkF m 73 #[.val (.int p1), .val (.long q2), .second, .val (.int (3 : Int32)), .val (.ref w_n2), .val (.int (0 : Int32)), .val (.ref b2)] [(.ref b2)])) rfl (by rw [hml]; rfl) (Steps.refl _) (argsL := []) (rest := []) (lenOf pd_2 rfl) rfl (by show 2 * 0 + _ ≤ _; exact Nat.le_of_eq rfl) (hb hby at_73) (fun _ _ => ⟨rfl, rfl, (by decide : 1 + 0 ≤ _), (by decide : 2 + 0 ≤ _)⟩)
  dsimp only [Pt.U, Pt.locs, Pt.cells, Pt.slots] at X4 l4 y4 z4 st4 hQ4
  subst l4 y4 z4
  obtain ⟨rfl, N4q, e4⟩ := hQ4
  have N4 := Fr.app N3 N4q
  obtain ⟨fs, hr, hrun, hended, hW, hsame⟩ := X4.leave (v := some (.int (1 : Int32))) (fun h => by rw [Bd.returns] at h; cases h)
  refine ⟨_, _, pre0 _ ?_, hrun, hended, _, _, rfl, ?_, ⟨_, rfl⟩, hW, hsame.mono (by decide) (by decide)⟩
  · show Steps p.tables e below (s₁.setTop (mkF m 0 #[.val (.int p1), .val (.long q2), .second, .unset, .unset, .unset, .unset] [])) _
    refine XS.iloadN X0.here hx rfl (hb hby at_0) rfl ?_
    show Steps p.tables e below (s₁.setTop (mkF m 1 #[.val (.int p1), .val (.long q2), .second, .unset, .unset, .unset, .unset] [(.int p1)])) _
    refine XS.iconst X0.here hx rfl (hb hby at_1) ?_
    show Steps p.tables e below (s₁.setTop (mkF m 2 #[.val (.int p1), .val (.long q2), .second, .unset, .unset, .unset, .unset] [(.int (3 : Int32)), (.int p1)])) _
    refine XS.iand X0.here hx rfl (hb hby at_2) rfl ?_
    show Steps p.tables e below (s₁.setTop (mkF m 3 #[.val (.int p1), .val (.long q2), .second, .unset, .unset, .unset, .unset] [(.int (p1 &&& (3 : Int32)))])) _
    rw [hk]
    show Steps p.tables e below (s₁.setTop (mkF m 3 #[.val (.int p1), .val (.long q2), .second, .unset, .unset, .unset, .unset] [(.int (3 : Int32))])) _
    refine XS.istoreN X0.here hx rfl (hb hby at_3) rfl (l' := #[.val (.int p1), .val (.long q2), .second, .val (.int (3 : Int32)), .unset, .unset, .unset]) rfl ?_
    show Steps p.tables e below (s₁.setTop (mkF m 4 #[.val (.int p1), .val (.long q2), .second, .val (.int (3 : Int32)), .unset, .unset, .unset] [])) _
    refine XS.iloadN X0.here hx rfl (hb hby at_4) rfl ?_
    show Steps p.tables e below (s₁.setTop (mkF m 5 #[.val (.int p1), .val (.long q2), .second, .val (.int (3 : Int32)), .unset, .unset, .unset] [(.int (3 : Int32))])) _
    refine XS.ifYes X0.here hx rfl (pc0 := 5) (pc' := 19) rfl (hb hby at_5) rfl ((if0 _ _).trans (feq ((by decide) : ¬ ((3 : Int32) = (0 : Int32)))).2) (by decide) (by decide) ?_
    show Steps p.tables e below (s₁.setTop (mkF m 19 #[.val (.int p1), .val (.long q2), .second, .val (.int (3 : Int32)), .unset, .unset, .unset] [])) _
    refine XS.iloadN X0.here hx rfl (hb hby at_19) rfl ?_
    show Steps p.tables e below (s₁.setTop (mkF m 20 #[.val (.int p1), .val (.long q2), .second, .val (.int (3 : Int32)), .unset, .unset, .unset] [(.int (3 : Int32))])) _
    refine XS.iconst X0.here hx rfl (hb hby at_20) ?_
    show Steps p.tables e below (s₁.setTop (mkF m 21 #[.val (.int p1), .val (.long q2), .second, .val (.int (3 : Int32)), .unset, .unset, .unset] [(.int (1 : Int32)), (.int (3 : Int32))])) _
    refine XS.icmpYes X0.here hx rfl (pc0 := 21) (pc' := 35) rfl (hb hby at_21) rfl (feq ((by decide) : ¬ ((3 : Int32) = (1 : Int32)))).2 (by decide) (by decide) ?_
    show Steps p.tables e below (s₁.setTop (mkF m 35 #[.val (.int p1), .val (.long q2), .second, .val (.int (3 : Int32)), .unset, .unset, .unset] [])) _
    refine XS.iloadN X0.here hx rfl (hb hby at_35) rfl ?_
    show Steps p.tables e below (s₁.setTop (mkF m 36 #[.val (.int p1), .val (.long q2), .second, .val (.int (3 : Int32)), .unset, .unset, .unset] [(.int (3 : Int32))])) _
    refine XS.iconst X0.here hx rfl (hb hby at_36) ?_
    show Steps p.tables e below (s₁.setTop (mkF m 37 #[.val (.int p1), .val (.long q2), .second, .val (.int (3 : Int32)), .unset, .unset, .unset] [(.int (2 : Int32)), (.int (3 : Int32))])) _
    refine XS.icmpYes X0.here hx rfl (pc0 := 37) (pc' := 51) rfl (hb hby at_37) rfl (feq ((by decide) : ¬ ((3 : Int32) = (2 : Int32)))).2 (by decide) (by decide) ?_
    show Steps p.tables e below (s₁.setTop (mkF m 51 #[.val (.int p1), .val (.long q2), .second, .val (.int (3 : Int32)), .unset, .unset, .unset] [])) _
    refine st1 _ ?_
    show Steps p.tables e below (T1.setTop (mkF m 54 #[.val (.int p1), .val (.long q2), .second, .val (.int (3 : Int32)), .unset, .unset, .unset] [(.ref w_n2)])) _
    refine XS.astore X1.here hx rfl (hb hby at_54) rfl rfl (l' := #[.val (.int p1), .val (.long q2), .second, .val (.int (3 : Int32)), .val (.ref w_n2), .unset, .unset]) rfl ?_
    show Steps p.tables e below (T1.setTop (mkF m 56 #[.val (.int p1), .val (.long q2), .second, .val (.int (3 : Int32)), .val (.ref w_n2), .unset, .unset] [])) _
    refine XS.iconst X1.here hx rfl (hb hby at_56) ?_
    show Steps p.tables e below (T1.setTop (mkF m 57 #[.val (.int p1), .val (.long q2), .second, .val (.int (3 : Int32)), .val (.ref w_n2), .unset, .unset] [(.int (0 : Int32))])) _
    refine XS.istore X1.here hx rfl (hb hby at_57) rfl (l' := #[.val (.int p1), .val (.long q2), .second, .val (.int (3 : Int32)), .val (.ref w_n2), .val (.int (0 : Int32)), .unset]) rfl ?_
    show Steps p.tables e below (T1.setTop (mkF m 59 #[.val (.int p1), .val (.long q2), .second, .val (.int (3 : Int32)), .val (.ref w_n2), .val (.int (0 : Int32)), .unset] [])) _
    refine st2 _ ?_
    show Steps p.tables e below (T2.setTop (mkF m 62 #[.val (.int p1), .val (.long q2), .second, .val (.int (3 : Int32)), .val (.ref w_n2), .val (.int (0 : Int32)), .unset] [(.ref b2)])) _
    refine XS.dup X2.here hx rfl (hb hby at_62) rfl rfl ?_
    show Steps p.tables e below (T2.setTop (mkF m 63 #[.val (.int p1), .val (.long q2), .second, .val (.int (3 : Int32)), .val (.ref w_n2), .val (.int (0 : Int32)), .unset] [(.ref b2), (.ref b2)])) _
    refine XS.aload X2.here hx rfl (hb hby at_63) rfl rfl ?_
    show Steps p.tables e below (T2.setTop (mkF m 65 #[.val (.int p1), .val (.long q2), .second, .val (.int (3 : Int32)), .val (.ref w_n2), .val (.int (0 : Int32)), .unset] [(.ref w_n2), (.ref b2), (.ref b2)])) _
    refine XS.lloadN X2.here hx rfl (hb hby at_65) rfl ?_
    show Steps p.tables e below (T2.setTop (mkF m 66 #[.val (.int p1), .val (.long q2), .second, .val (.int (3 : Int32)), .val (.ref w_n2), .val (.int (0 : Int32)), .unset] [(.long q2), (.ref w_n2), (.ref b2), (.ref b2)])) _
    refine st3.trans ?_
    show Steps p.tables e below (T3.setTop (mkF m 69 #[.val (.int p1), .val (.long q2), .second, .val (.int (3 : Int32)), .val (.ref w_n2), .val (.int (0 : Int32)), .unset] [(.ref b2)])) _
    refine XS.astore X3.here hx rfl (hb hby at_69) rfl rfl (l' := #[.val (.int p1), .val (.long q2), .second, .val (.int (3 : Int32)), .val (.ref w_n2), .val (.int (0 : Int32)), .val (.ref b2)]) rfl ?_
    show Steps p.tables e below (T3.setTop (mkF m 71 #[.val (.int p1), .val (.long q2), .second, .val (.int (3 : Int32)), .val (.ref w_n2), .val (.int (0 : Int32)), .val (.ref b2)] [])) _
    refine XS.aload X3.here hx rfl (hb hby at_71) rfl rfl ?_
    show Steps p.tables e below (T3.setTop (mkF m 73 #[.val (.int p1), .val (.long q2), .second, .val (.int (3 : Int32)), .val (.ref w_n2), .val (.int (0 : Int32)), .val (.ref b2)] [(.ref b2)])) _
    refine st4.trans ?_
    show Steps p.tables e below (T4.setTop (mkF m 76 #[.val (.int p1), .val (.long q2), .second, .val (.int (3 : Int32)), .val (.ref w_n2), .val (.int (0 : Int32)), .val (.ref b2)] [(.int (0 : Int32))])) _
    refine XS.iload X4.here hx rfl (hb hby at_76) rfl ?_
    show Steps p.tables e below (T4.setTop (mkF m 78 #[.val (.int p1), .val (.long q2), .second, .val (.int (3 : Int32)), .val (.ref w_n2), .val (.int (0 : Int32)), .val (.ref b2)] [(.int (0 : Int32)), (.int (0 : Int32))])) _
    refine XS.icmpNo X4.here hx rfl (hb hby at_78) rfl (teq ((by decide) : (0 : Int32) = (0 : Int32))).2 ?_
    show Steps p.tables e below (T4.setTop (mkF m 81 #[.val (.int p1), .val (.long q2), .second, .val (.int (3 : Int32)), .val (.ref w_n2), .val (.int (0 : Int32)), .val (.ref b2)] [])) _
    refine XS.iconst X4.here hx rfl (hb hby at_81) ?_
    show Steps p.tables e below (T4.setTop (mkF m 82 #[.val (.int p1), .val (.long q2), .second, .val (.int (3 : Int32)), .val (.ref w_n2), .val (.int (0 : Int32)), .val (.ref b2)] [(.int (1 : Int32))])) _
    refine XS.goto X4.here hx rfl (pc0 := 82) (pc' := 86) rfl (hb hby at_82) (by decide) (by decide) ?_
    show Steps p.tables e below (T4.setTop (mkF m 86 #[.val (.int p1), .val (.long q2), .second, .val (.int (3 : Int32)), .val (.ref w_n2), .val (.int (0 : Int32)), .val (.ref b2)] [(.int (1 : Int32))])) _
    exact retN X4 hx (t := .boolean) Bd.returns (by simp) (hb hby at_86) hr
  · show Q0 n0 _ T4.heap _
    rw [e4]
    exact ⟨rfl, N4⟩
theorem rm0 (l : Launch) (Z : State) (a0 : Array Value) (hw : ∀ d ∈ tables_1, d.before a0 Z = true) (ws : List Jvm.Cond) {w_n0 : Addr} {w_n2 : Addr} {w_n3 : Addr} {w_n1 : Addr} (W : Wd Z w_n0 w_n2 w_n3 w_n1) (p1 : Int32) (q2 : Int64) (h0 : Heap) (n0 : Nat) (O0 : Old Z n0 h0) :
    MetFree l x (head1 (Jvm.Cond.code x code maxLocals ret :: ws) room_1) (fun a U => a = #[(.int p1), (.long q2)] ∧ Z.Warmed39 U.vm ∧ U.heap = h0) (fun _ _ _ _ _ => True) (fun _ U o U' => ∃ v L, o = .returned v ∧ Q0 n0 v U'.heap L ∧ FrameEnd U o U' L room_1.cells room_1.slots) := by
  have e : (p1 &&& (3 : Int32)).toInt = p1.toInt % (2 ^ 2 : Nat) := c_mask p1 3 2 (by decide) (by decide)
  have c : (p1 &&& (3 : Int32)) = (0 : Int32) ∨ (p1 &&& (3 : Int32)) = (1 : Int32) ∨ (p1 &&& (3 : Int32)) = (2 : Int32) ∨ (p1 &&& (3 : Int32)) = (3 : Int32) := by
    simp only [← Int32.toInt_inj]
    have q0 : (0 : Int32).toInt = 0 := rfl
    have q1 : (1 : Int32).toInt = 1 := rfl
    have q2 : (2 : Int32).toInt = 2 := rfl
    have q3 : (3 : Int32).toInt = 3 := rfl
    omega
  rcases c with h | h | h | h
  · exact rm0_0 l Z a0 hw ws W p1 q2 h0 n0 O0 h
  · exact rm0_1 l Z a0 hw ws W p1 q2 h0 n0 O0 h
  · exact rm0_2 l Z a0 hw ws W p1 q2 h0 n0 O0 h
  · exact rm0_3 l Z a0 hw ws W p1 q2 h0 n0 O0 h
set_option maxRecDepth 65536 in
set_option maxHeartbeats 40000000 in
theorem comes_1 {Post : Tables → Env → Array Value → State → Outcome → State → Prop} (hpost : ∀ tb e args s v u, (limb_1_1.after args s (.returned v) u = true ∧ limb_1_2.after args s (.returned v) u = true ∧ True) → FrameEnd s (.returned v) u (Jvm.fieldLocs frame_1_writes args s ++ Jvm.arrayLocs frame_1_arrays args s ++ Jvm.staticLocs frame_1_statics s) 16 128 → Post tb e args s (.returned v) u) :
    ArmFor flags0 classFile x code maxLocals ret World_1 tables_1 room_1 Calls_1 rest_1 Pre_1 Post := by
  intro l hfl _ _ p e ha hc hk s m args below hf hA hF happ hP
  obtain ⟨hcalls, hrest, hpre⟩ := hP
  obtain ⟨-, -, -, hnamed, -, -, -, hat⟩ := (Spec.applies_iff hf).mp happ
  obtain ⟨hg, hn⟩ := and_e (Cond.before_iff.mp (show (Jvm.Cond.and given_1 narrow_1).before args s = true from hpre))
  obtain ⟨g0, r0⟩ := and_e hg
  obtain ⟨g1, r1⟩ := and_e r0
  have g2 := r1
  obtain ⟨w0, w1, rfl⟩ : ∃ w0 w1 : Value, args = #[w0, w1] := by
    have hs : args.size = 2 := by simpa [Cond.value, given_1] using g0
    obtain ⟨L⟩ := args
    match L, hs with
    | [w0, w1], _ => exact ⟨w0, w1, rfl⟩
  have hw := fun d (hd : d ∈ tables_1) => atoms_spec (ws := Jvm.Cond.code x code maxLocals ret :: tables_1) hat d (List.mem_cons_of_mem _ hd)
  have hfit : Fit s := fun {y c} hc i hi => by
    obtain ⟨ha, rfl⟩ := Array.getElem?_eq_some_iff.mp hc
    have q := List.all_eq_true.mp ((Array.all_eq_true_iff_forall_mem.mp hF) _ (Array.getElem_mem ha)) i (List.mem_range.mpr hi)
    simpa [Array.getElem?_eq_getElem hi] using q
  obtain ⟨i0, ei0⟩ := is_v g1
  obtain rfl : w0 = (.int i0) := Option.some.inj ei0
  obtain ⟨i1, ei1⟩ := isL_v g2
  obtain rfl : w1 = (.long i1) := Option.some.inj ei1
  obtain ⟨w_n0, w_n2, w_n3, w_n1, W⟩ := wd_start hfit hw hn
  obtain ⟨n, o, h1, h2, h3, _, L, rfl, ⟨rfl, N⟩, hq⟩ := rm0 l s _ hw tables_1 W i0 i1 s.heap s.heap.size (Old.start s) p e ha hc hk s m _ below hf ((Spec.applies_iff_loose hf).mp happ).1 ⟨rfl, State.Warmed39.refl s, rfl⟩ trivial
  refine ⟨n, _, h1, h2, h3, hpost _ _ _ _ _ _ ⟨Cond.after_iff.mpr rfl, Cond.after_iff.mpr (eq_i res_at (Term.int_eval (1)) rfl), trivial⟩ ⟨hq.1, hq.2.1, (hq.2.2.sift fun y hy => Or.inr (N y hy)).mono (by decide) (by decide)⟩⟩
theorem main_1_1 : Claimed_1_1 := comes_1 fun _ _ _ _ _ _ h hF => ⟨h.1, hF⟩
theorem main_1_2 : Claimed_1_2 := comes_1 fun _ _ _ _ _ _ h hF => ⟨h.2.1, hF⟩
end Jvm.Pilot.@@N@@
namespace Jvm.Pilot.@@N@@
open Jvm Jvm.ClassFile Sem Op Lib Jvm.Free Jvm.Stand Jvm.Pilot.@@N@@.Jvm.D
/-! MADE BY PROGRAM (witnessworld.py) out of the Statement's table words and the real class files: 14 classes; the members and pool entries that the words name. The judged class is class 1, her method 1. -/
namespace start1
open Jvm.ClassFile
def u (s : String) : CpInfo := .utf8 (stringToUtf16 s)
/-- a pool by its gaps: so many unusable entries, then the entry; so many at the end -/
def gap : Nat → List CpInfo → List CpInfo
  | 0, r => r
  | n + 1, r => .unusable :: gap n r
def poolList (es : List (Nat × CpInfo)) (last : Nat) : List CpInfo := es.foldr (fun e r => gap e.1 (e.2 :: r)) (gap last [])
def pool (es : List (Nat × CpInfo)) (last : Nat) : Array CpInfo := ⟨poolList es last⟩
def fileOf (pool : Array CpInfo) (this : Nat) (attrs : Array Attribute := #[]) (ms : Array MethodInfo := #[]) (fl : Nat := 33) (sup : Nat := 0) (ifs : Array Nat := #[]) (fds : Array FieldInfo := #[]) : ClassFile where
  minorVersion := 0
  majorVersion := 65
  constantPool := pool
  accessFlags := fl
  thisClass := this
  superClass := sup
  interfaces := ifs
  fields := fds
  methods := ms
  attributes := attrs
def plain (name : String) (sup : Option ClassId) : Class where
  name := name
  kind := .ordinary
  loader := none
  accessFlags := 33
  super := sup
  interfaces := #[]
  cf := none
  fields := #[]
  methods := #[]
  instanceTypes := #[]
  staticTypes := #[]
  resolved := #[]
  callSites := []
  init := .initialized
  statics := none
  mirror := none

def pool0 : Array CpInfo := pool [(5, u "<init>"), (0, u "()V"), (1, .class_ 10), (1, u "java/lang/Object")] 113

def k0c0 : Code := { maxStack := 0, maxLocals := 1, code := object_method_1_code, exceptionTable := #[], attributes := #[] }
def k0m0 : Method := { name := "<init>", desc := "()V", sig := { parameters := [], returnType := none }, accessFlags := 1, code := some k0c0 }
/-- java/lang/Object -/
def k0 : Class := { plain "java/lang/Object" none with
  accessFlags := 33
  interfaces := #[]
  cf := some (fileOf pool0 8 #[] #[{ accessFlags := 1, nameIndex := 5, descriptorIndex := 6, attributes := #[] }] 33 0 #[] #[])
  fields := #[]
  methods := #[k0m0]
  instanceTypes := #[]
  staticTypes := #[]
  resolved := Array.replicate 124 none
  statics := none }

def pool1 : Array CpInfo := pool [(2, .class_ 4), (1, u "java/lang/Object"), (0, u "<init>"), (0, u "()V"), (0, .fieldref 8 9), (0, .class_ 10), (0, .nameAndType 11 12), (0, u "com/example/usher/usher/server/Role$Mode"), (0, u "STANDALONE"), (0, u "Lcom/example/usher/usher/server/Role$Mode;"), (0, .fieldref 8 14), (0, .nameAndType 15 12), (0, u "LEADER"), (0, .fieldref 8 17), (0, .nameAndType 18 12), (0, u "FOLLOWER"), (0, .fieldref 8 20), (0, .nameAndType 21 12), (0, u "LOOKING"), (0, .class_ 23), (0, u "com/example/usher/usher/server/Role"), (0, .methodref 22 25), (0, .nameAndType 5 26), (0, u "(Lcom/example/usher/usher/server/Role$Mode;J)V"), (0, .methodref 22 28), (0, .nameAndType 29 30), (0, u "servesSessions"), (0, u "()Z"), (0, .class_ 32), (0, u "com/example/usher/usher/server/RoleServesSessionsPinLaw"), (2, u "law"), (0, u "(IJ)Z")] 5

def k1m0 : Method := { name := "<init>", desc := "()V", sig := { parameters := [], returnType := none }, accessFlags := 1, code := none }
def k1c1 : Code := { maxStack := 5, maxLocals := 7, code := code, exceptionTable := #[], attributes := #[] }
def k1m1 : Method := { name := "law", desc := "(IJ)Z", sig := { parameters := [.int, .long], returnType := some .boolean }, accessFlags := 9, code := some k1c1 }
/-- com/example/usher/usher/server/RoleServesSessionsPinLaw -/
def k1 : Class := { plain "com/example/usher/usher/server/RoleServesSessionsPinLaw" (some 0) with
  accessFlags := 49
  interfaces := #[]
  cf := some (fileOf pool1 31 #[] #[{ accessFlags := 1, nameIndex := 5, descriptorIndex := 6, attributes := #[] }, { accessFlags := 9, nameIndex := 35, descriptorIndex := 36, attributes := #[] }] 49 2 #[] #[])
  fields := #[]
  methods := #[k1m0, k1m1]
  instanceTypes := #[]
  staticTypes := #[]
  resolved := Array.replicate 42 none
  statics := none }

def pool2 : Array CpInfo := pool [(1, .class_ 2), (0, u "java/lang/constant/Constable"), (0, .class_ 4), (0, u "java/lang/Object")] 6

/-- java/lang/constant/Constable -/
def k2 : Class := { plain "java/lang/constant/Constable" (some 0) with
  accessFlags := 1537
  interfaces := #[]
  cf := some (fileOf pool2 1 #[] #[] 1537 3 #[] #[])
  fields := #[]
  methods := #[]
  instanceTypes := #[]
  staticTypes := #[]
  resolved := Array.replicate 11 none
  statics := none }

def pool3 : Array CpInfo := pool [(1, .class_ 2), (0, u "java/lang/Comparable"), (0, .class_ 4), (0, u "java/lang/Object")] 7

/-- java/lang/Comparable -/
def k3 : Class := { plain "java/lang/Comparable" (some 0) with
  accessFlags := 1537
  interfaces := #[]
  cf := some (fileOf pool3 1 #[] #[] 1537 3 #[] #[])
  fields := #[]
  methods := #[]
  instanceTypes := #[]
  staticTypes := #[]
  resolved := Array.replicate 12 none
  statics := none }

def pool4 : Array CpInfo := pool [(1, .class_ 2), (0, u "java/io/Serializable"), (0, .class_ 4), (0, u "java/lang/Object")] 2

/-- java/io/Serializable -/
def k4 : Class := { plain "java/io/Serializable" (some 0) with
  accessFlags := 1537
  interfaces := #[]
  cf := some (fileOf pool4 1 #[] #[] 1537 3 #[] #[])
  fields := #[]
  methods := #[]
  instanceTypes := #[]
  staticTypes := #[]
  resolved := Array.replicate 7 none
  statics := none }

def pool5 : Array CpInfo := pool [(2, .class_ 4), (1, u "java/lang/Enum"), (0, u "name"), (0, u "Ljava/lang/String;"), (2, u "ordinal"), (0, u "I"), (1, .class_ 14), (1, u "java/lang/Object"), (4, u "hash"), (86, .class_ 108), (1, u "java/lang/Enum$EnumDesc"), (2, .class_ 112), (0, u "java/lang/constant/Constable"), (0, .class_ 114), (0, u "java/lang/Comparable"), (0, .class_ 116), (0, u "java/io/Serializable")] 87

/-- java/lang/Enum -/
def k5 : Class := { plain "java/lang/Enum" (some 0) with
  accessFlags := 1057
  interfaces := #[2, 3, 4]
  cf := some (fileOf pool5 2 #[.nestMembers #[106]] #[] 1057 12 #[111, 113, 115] #[{ accessFlags := 18, nameIndex := 5, descriptorIndex := 6, attributes := #[] }, { accessFlags := 18, nameIndex := 9, descriptorIndex := 10, attributes := #[] }, { accessFlags := 2, nameIndex := 19, descriptorIndex := 10, attributes := #[] }])
  fields := #[{ name := "name", type := (.object "java/lang/String"), accessFlags := 18, slot := 0, constantValue := 0 }, { name := "ordinal", type := .int, accessFlags := 18, slot := 1, constantValue := 0 }, { name := "hash", type := .int, accessFlags := 2, slot := 2, constantValue := 0 }]
  methods := #[]
  instanceTypes := #[(.object "java/lang/String"), .int, .int]
  staticTypes := #[]
  resolved := Array.replicate 204 none
  statics := none }

def pool6 : Array CpInfo := pool [(1, .class_ 2), (0, u "com/example/usher/usher/server/Role$Mode"), (2, u "STANDALONE"), (0, u "Lcom/example/usher/usher/server/Role$Mode;"), (2, u "LEADER"), (2, u "FOLLOWER"), (2, u "LOOKING"), (2, u "$VALUES"), (0, u "[Lcom/example/usher/usher/server/Role$Mode;"), (6, .class_ 28), (1, u "java/lang/Enum"), (44, .class_ 74), (0, u "com/example/usher/usher/server/Role")] 2

/-- com/example/usher/usher/server/Role$Mode -/
def k6 : Class := { plain "com/example/usher/usher/server/Role$Mode" (some 5) with
  accessFlags := 16432
  interfaces := #[]
  cf := some (fileOf pool6 1 #[.nestHost 73] #[] 16432 26 #[] #[{ accessFlags := 16409, nameIndex := 5, descriptorIndex := 6, attributes := #[] }, { accessFlags := 16409, nameIndex := 9, descriptorIndex := 6, attributes := #[] }, { accessFlags := 16409, nameIndex := 12, descriptorIndex := 6, attributes := #[] }, { accessFlags := 16409, nameIndex := 15, descriptorIndex := 6, attributes := #[] }, { accessFlags := 4122, nameIndex := 18, descriptorIndex := 19, attributes := #[] }])
  fields := #[{ name := "STANDALONE", type := (.object "com/example/usher/usher/server/Role$Mode"), accessFlags := 16409, slot := 0, constantValue := 0 }, { name := "LEADER", type := (.object "com/example/usher/usher/server/Role$Mode"), accessFlags := 16409, slot := 1, constantValue := 0 }, { name := "FOLLOWER", type := (.object "com/example/usher/usher/server/Role$Mode"), accessFlags := 16409, slot := 2, constantValue := 0 }, { name := "LOOKING", type := (.object "com/example/usher/usher/server/Role$Mode"), accessFlags := 16409, slot := 3, constantValue := 0 }, { name := "$VALUES", type := (.array (.object "com/example/usher/usher/server/Role$Mode")), accessFlags := 4122, slot := 4, constantValue := 0 }]
  methods := #[]
  instanceTypes := #[(.object "java/lang/String"), .int, .int]
  staticTypes := #[(.object "com/example/usher/usher/server/Role$Mode"), (.object "com/example/usher/usher/server/Role$Mode"), (.object "com/example/usher/usher/server/Role$Mode"), (.object "com/example/usher/usher/server/Role$Mode"), (.array (.object "com/example/usher/usher/server/Role$Mode"))]
  resolved := Array.replicate 77 none
  statics := some 0 }

def pool7 : Array CpInfo := pool [(1, .methodref 2 3), (0, .class_ 4), (0, .nameAndType 5 6), (0, u "java/lang/Object"), (0, u "<init>"), (0, u "()V"), (0, .class_ 8), (0, u "java/lang/Record")] 13

def k7c0 : Code := { maxStack := 1, maxLocals := 1, code := jdk_30_method_1_code, exceptionTable := #[], attributes := #[] }
def k7m0 : Method := { name := "<init>", desc := "()V", sig := { parameters := [], returnType := none }, accessFlags := 4, code := some k7c0 }
/-- java/lang/Record -/
def k7 : Class := { plain "java/lang/Record" (some 0) with
  accessFlags := 1057
  interfaces := #[]
  cf := some (fileOf pool7 7 #[] #[{ accessFlags := 4, nameIndex := 5, descriptorIndex := 6, attributes := #[] }] 1057 2 #[] #[])
  fields := #[]
  methods := #[k7m0]
  instanceTypes := #[]
  staticTypes := #[]
  resolved := Array.replicate 22 none
  statics := none }

def pool8 : Array CpInfo := pool [(1, .methodref 2 3), (0, .class_ 4), (0, .nameAndType 5 6), (0, u "java/lang/Record"), (0, u "<init>"), (0, u "()V"), (0, .fieldref 8 9), (0, .class_ 10), (0, .nameAndType 11 12), (0, u "com/example/usher/usher/server/Role"), (0, u "mode"), (0, u "Lcom/example/usher/usher/server/Role$Mode;"), (0, .fieldref 8 14), (0, .nameAndType 15 16), (0, u "epoch"), (0, u "J"), (0, .fieldref 18 19), (0, .class_ 20), (0, .nameAndType 21 12), (0, u "com/example/usher/usher/server/Role$Mode"), (0, u "LOOKING"), (29, u "STANDALONE"), (2, u "(Lcom/example/usher/usher/server/Role$Mode;J)V"), (2, u "Lcom/example/usher/usher/server/Role;"), (5, u "servesSessions"), (0, u "()Z")] 31

def k8c0 : Code := { maxStack := 3, maxLocals := 4, code := prog_10_method_1_code, exceptionTable := #[], attributes := #[] }
def k8m0 : Method := { name := "<init>", desc := "(Lcom/example/usher/usher/server/Role$Mode;J)V", sig := { parameters := [(.object "com/example/usher/usher/server/Role$Mode"), .long], returnType := none }, accessFlags := 0, code := some k8c0 }
def k8c1 : Code := { maxStack := 2, maxLocals := 1, code := prog_10_method_2_code, exceptionTable := #[], attributes := #[] }
def k8m1 : Method := { name := "servesSessions", desc := "()Z", sig := { parameters := [], returnType := some .boolean }, accessFlags := 0, code := some k8c1 }
/-- com/example/usher/usher/server/Role -/
def k8 : Class := { plain "com/example/usher/usher/server/Role" (some 7) with
  accessFlags := 48
  interfaces := #[]
  cf := some (fileOf pool8 8 #[.nestMembers #[18]] #[{ accessFlags := 0, nameIndex := 5, descriptorIndex := 54, attributes := #[] }, { accessFlags := 0, nameIndex := 63, descriptorIndex := 64, attributes := #[] }] 48 2 #[] #[{ accessFlags := 18, nameIndex := 11, descriptorIndex := 12, attributes := #[] }, { accessFlags := 18, nameIndex := 15, descriptorIndex := 16, attributes := #[] }, { accessFlags := 24, nameIndex := 51, descriptorIndex := 57, attributes := #[] }, { accessFlags := 24, nameIndex := 21, descriptorIndex := 57, attributes := #[] }])
  fields := #[{ name := "mode", type := (.object "com/example/usher/usher/server/Role$Mode"), accessFlags := 18, slot := 0, constantValue := 0 }, { name := "epoch", type := .long, accessFlags := 18, slot := 1, constantValue := 0 }, { name := "STANDALONE", type := (.object "com/example/usher/usher/server/Role"), accessFlags := 24, slot := 0, constantValue := 0 }, { name := "LOOKING", type := (.object "com/example/usher/usher/server/Role"), accessFlags := 24, slot := 1, constantValue := 0 }]
  methods := #[k8m0, k8m1]
  instanceTypes := #[(.object "com/example/usher/usher/server/Role$Mode"), .long]
  staticTypes := #[(.object "com/example/usher/usher/server/Role"), (.object "com/example/usher/usher/server/Role")]
  resolved := Array.replicate 96 none
  statics := none }

def pool9 : Array CpInfo := pool [(1, u "java/lang/Cloneable"), (0, .class_ 1), (0, u "java/lang/Object"), (0, .class_ 3)] 3

/-- java/lang/Cloneable -/
def k9 : Class := { plain "java/lang/Cloneable" (some 0) with
  accessFlags := 1537
  interfaces := #[]
  cf := some (fileOf pool9 2 #[] #[] 1537 4 #[] #[])
  fields := #[]
  methods := #[]
  instanceTypes := #[]
  staticTypes := #[]
  resolved := Array.replicate 8 none
  statics := none }

/-- the primitive byte -/
def k10 : Class := { plain "byte" none with kind := .primitive 'B', accessFlags := 0x411 }
/-- [B -/
def k11 : Class := { plain "[B" (some 0) with kind := .array 10 .byte, interfaces := #[9, 4], accessFlags := 1041 }

/-- the primitive int -/
def k12 : Class := { plain "int" none with kind := .primitive 'I', accessFlags := 0x411 }
/-- [I -/
def k13 : Class := { plain "[I" (some 0) with kind := .array 12 .int, interfaces := #[9, 4], accessFlags := 1041 }

def heap : Heap := #[{ cls := 6, slots := #[.ref 1, .ref 3, .ref 4, .ref 2, .null], vm := .statics 6 },
  { cls := 6, slots := #[.null, .int 0, .int 0], vm := .none },
  { cls := 6, slots := #[.null, .int 3, .int 0], vm := .none },
  { cls := 6, slots := #[.null, .int 1, .int 0], vm := .none },
  { cls := 6, slots := #[.null, .int 2, .int 0], vm := .none }]
def classes : Array Class := #[k0, k1, k2, k3, k4, k5, k6, k7, k8, k9, k10, k11, k12, k13]
def interned : List (Array UInt16 × Addr) := []
def slotsUsed : Nat := 17
def theMethod : MethodId := ⟨1, 1⟩
def args0 : Array Value := #[.int 5, .long 7]
def aboutOver (below : List Frame) : State where
  vm := { classes := classes, interned := interned.toArray }
  heap := heap
  slotsUsed := slotsUsed
  threads := #[{ frames := .invoking theMethod args0 :: below }]
def below0 : List Frame := [.native { method := ⟨0, 0⟩, args := #[] }]
def about1 : State := aboutOver below0
def p0 : Program := .bare "" "" ""
def e0 : Env := launch0.env 0 0 0
theorem w_frames : about1.frames = Frame.invoking theMethod args0 :: below0 := rfl
set_option maxRecDepth 65536 in
theorem w_args : argsFit about1.vm theMethod args0 = true := by decide +kernel
set_option maxRecDepth 65536 in
theorem w_heap : heapFits about1 = true := by decide +kernel
set_option maxRecDepth 65536 in
theorem w_runnable : about1.curStatus? = some .runnable := by decide +kernel
set_option maxRecDepth 65536 in
theorem w_alone : about1.alone = true := by decide +kernel
set_option maxRecDepth 65536 in
theorem w_named : about1.methodNamed? x = some theMethod := by decide +kernel
set_option maxRecDepth 65536 in
theorem w_hears : about1.hears theMethod below0 = true := by decide +kernel
set_option maxRecDepth 65536 in
theorem w_ripe : about1.ripe theMethod args0 below0 = true := by decide +kernel
theorem w_running : about1.status = .running := rfl
set_option maxRecDepth 65536 in
theorem w_room : about1.hasRoom e0.platform room_1 = true :=
  launch0.hasRoom_least _ room_1 (by decide +kernel) (by decide +kernel) (by decide +kernel) (by decide +kernel) (by decide +kernel) (by decide +kernel)
theorem allAtoms_all (ts : List Jvm.Cond) (a : Array Jvm.Value) (st : Jvm.State) : (allAtoms ts).before a st = ts.all (fun c => c.before a st) := by
  induction ts with
  | nil => rfl
  | cons c t ih =>
    show (Jvm.Cond.and c (allAtoms t)).before a st = _
    rw [Jvm.Cond.before_and, ih, List.all_cons]
def words1 : List Jvm.Cond := Jvm.Cond.code x code maxLocals ret :: tables_1
/-- a 'code' word, met by the world's own term for the bytes: nothing is compared byte by byte -/
theorem code_word {y : MethodName} {bytes : ByteArray} {mx : Nat} {rt : Option FieldType} {a : Array Value} {s : State} {m : MethodId} {meth : Method} {c : Code} (h1 : s.methodNamed? y = some m) (h2 : s.vm.method? m = some meth) (h3 : meth.code = some c) (h4 : c.code = bytes)
    (h5 : (c.maxLocals == mx && c.exceptionTable.isEmpty && decide (c.maxStack ≤ mostOperands) && decide (meth.sig.returnType = rt) && !meth.locks && decide (parseMethodDescriptor y.desc = some meth.sig)) = true) : (Jvm.Cond.code y bytes mx rt).before a s = true := by
  simp only [Bool.and_eq_true, beq_iff_eq, Bool.not_eq_true', decide_eq_true_eq] at h5
  obtain ⟨⟨⟨⟨⟨g1, g2⟩, g3⟩, g4⟩, g5⟩, g6⟩ := h5
  simp [Cond.before, Cond.holds, Cond.value, h1, h2, h3, h4, g1, g2, g3, g4, g5, g6]
def isCode : Jvm.Cond → Bool
  | .code _ _ _ _ => true
  | _ => false
theorem all_split {L : List Jvm.Cond} {P : Jvm.Cond → Bool} (h1 : L.all (fun c => isCode c || P c) = true) (h2 : ∀ c ∈ L.filter isCode, P c = true) : L.all P = true := by
  refine List.all_eq_true.mpr fun c hc => ?_
  have h := List.all_eq_true.mp h1 c hc
  rcases Bool.eq_false_or_eq_true (isCode c) with hi | hi
  · exact h2 c (List.mem_filter.mpr ⟨hc, hi⟩)
  · simpa [hi] using h
set_option maxRecDepth 65536 in
theorem w_c0 : (Jvm.Cond.code x code maxLocals ret).before args0 about1 = true := code_word (m := ⟨1, 1⟩) (meth := k1m1) (c := k1c1) (by decide +kernel) rfl rfl rfl (by decide +kernel)
set_option maxRecDepth 65536 in
theorem w_c1 : (Jvm.Cond.code ({ cls := "com/example/usher/usher/server/Role", name := "<init>", desc := "(Lcom/example/usher/usher/server/Role$Mode;J)V" } : Jvm.MethodName) prog_10_method_1_code (4 : Nat) (Option.none : Option Jvm.ClassFile.FieldType)).before args0 about1 = true := code_word (m := ⟨8, 0⟩) (meth := k8m0) (c := k8c0) (by decide +kernel) rfl rfl rfl (by decide +kernel)
set_option maxRecDepth 65536 in
theorem w_c2 : (Jvm.Cond.code ({ cls := "java/lang/Record", name := "<init>", desc := "()V" } : Jvm.MethodName) jdk_30_method_1_code (1 : Nat) (Option.none : Option Jvm.ClassFile.FieldType)).before args0 about1 = true := code_word (m := ⟨7, 0⟩) (meth := k7m0) (c := k7c0) (by decide +kernel) rfl rfl rfl (by decide +kernel)
set_option maxRecDepth 65536 in
theorem w_c3 : (Jvm.Cond.code ({ cls := "java/lang/Object", name := "<init>", desc := "()V" } : Jvm.MethodName) object_method_1_code (1 : Nat) (Option.none : Option Jvm.ClassFile.FieldType)).before args0 about1 = true := code_word (m := ⟨0, 0⟩) (meth := k0m0) (c := k0c0) (by decide +kernel) rfl rfl rfl (by decide +kernel)
set_option maxRecDepth 65536 in
theorem w_c4 : (Jvm.Cond.code ({ cls := "com/example/usher/usher/server/Role", name := "servesSessions", desc := "()Z" } : Jvm.MethodName) prog_10_method_2_code (1 : Nat) (Option.some Jvm.ClassFile.FieldType.boolean)).before args0 about1 = true := code_word (m := ⟨8, 1⟩) (meth := k8m1) (c := k8c1) (by decide +kernel) rfl rfl rfl (by decide +kernel)
def codes1 : List Jvm.Cond := [Jvm.Cond.code x code maxLocals ret, Jvm.Cond.code ({ cls := "com/example/usher/usher/server/Role", name := "<init>", desc := "(Lcom/example/usher/usher/server/Role$Mode;J)V" } : Jvm.MethodName) prog_10_method_1_code (4 : Nat) (Option.none : Option Jvm.ClassFile.FieldType), Jvm.Cond.code ({ cls := "java/lang/Record", name := "<init>", desc := "()V" } : Jvm.MethodName) jdk_30_method_1_code (1 : Nat) (Option.none : Option Jvm.ClassFile.FieldType), Jvm.Cond.code ({ cls := "java/lang/Object", name := "<init>", desc := "()V" } : Jvm.MethodName) object_method_1_code (1 : Nat) (Option.none : Option Jvm.ClassFile.FieldType), Jvm.Cond.code ({ cls := "com/example/usher/usher/server/Role", name := "servesSessions", desc := "()Z" } : Jvm.MethodName) prog_10_method_2_code (1 : Nat) (Option.some Jvm.ClassFile.FieldType.boolean)]
set_option maxRecDepth 65536 in
theorem codes_eq : words1.filter isCode = codes1 := rfl
theorem w_codes : ∀ c ∈ words1.filter isCode, c.before args0 about1 = true := by
  rw [codes_eq]
  intro c hc
  simp only [codes1, List.mem_cons, List.not_mem_nil, or_false] at hc
  rcases hc with rfl | rfl | rfl | rfl | rfl
  · exact w_c0
  · exact w_c1
  · exact w_c2
  · exact w_c3
  · exact w_c4
set_option maxRecDepth 65536 in
theorem w_t1 : (words1.take 24).all (fun c => isCode c || c.before args0 about1) = true := by decide +kernel
set_option maxRecDepth 65536 in
theorem w_t2 : (words1.drop 24).all (fun c => isCode c || c.before args0 about1) = true := by decide +kernel
theorem w_tables : (allAtoms (Jvm.Cond.code x code maxLocals ret :: tables_1)).before args0 about1 = true := by
  rw [allAtoms_all]
  show words1.all (fun c => c.before args0 about1) = true
  refine all_split ?_ w_codes
  rw [← List.take_append_drop 24 words1, List.all_append, w_t1, w_t2]
  rfl
set_option maxRecDepth 65536 in
theorem w_case : (Jvm.Cond.and given_1 narrow_1).before args0 about1 = true := by decide +kernel
theorem w_applies : (headSpec (Jvm.Cond.code x code maxLocals ret :: tables_1) room_1).applies x e0.platform about1 = true :=
  (Spec.applies_iff w_frames).mpr ⟨w_running, w_runnable, w_alone, w_named, w_hears, w_ripe, w_room, w_tables⟩
theorem atStart : AtStart classFile x code maxLocals ret World_1 tables_1 room_1 Calls_1 rest_1 Pre_1 launch0 p0 e0 about1 theMethod args0 below0 :=
  ⟨lists_1, trivial, launch0.admits_env _ _ _, launch0.least_env, fairChoices_fair.cas, fairChoices_fair.clock, w_frames, w_args, w_heap, w_applies, trivial, trivial, w_case⟩
end start1
theorem witness_1 : WitnessClaimed_1 := ⟨start1.p0, start1.e0, start1.about1, start1.theMethod, start1.args0, start1.below0, start1.atStart⟩
end Jvm.Pilot.@@N@@
