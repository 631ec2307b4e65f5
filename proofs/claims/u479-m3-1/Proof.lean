import JvmDerived
import JvmDerived.Pilot.@@N@@Statement
import JvmDerived.Pilot.@@N@@Code
set_option linter.unusedVariables false
set_option linter.unusedSimpArgs false
namespace Jvm.RoadKit
open Sem ClassFile Op Lib Jvm.Stand Jvm.Free Jvm.LawKit
section New
variable {p : Program} {l : Launch} {e : Env} {R : Room} {s : State} {m : MethodId} {args : Array Value} {below : List Frame} {meth : Method} {c : Code} {T : State} {locs : List Loc} {cells slots : Nat}
theorem retI (X : Stand p l e R s m args below meth c T locs cells slots) (hx : p.tables.exec = Jvm.exec) {pc : Nat} {Ls : Array Slot} {z : Int32} {rest : List Value} (hret : meth.sig.returnType = some .int) (hd : decode c.code pc = .ok (.ireturn, 1)) {fs : List Frame}
    (hl : ∀ (f : JFrame) (acts : List Action), f.method = m → f.locked = none → f.entered = [] → (doReturn e (T.setTop f) acts (some (.int z))).1 = T.setFrames fs) : Steps p.tables e below (T.setTop (mkF m pc Ls (.int z :: rest))) (T.setFrames fs) := by
  have hm' : T.vm.method? m = some meth := X.method'
  have hn : narrow .int (.int z) = .int z := rfl
  show Steps p.tables e below (T.setTop { method := m, pc := pc, locals := Ls, stack := _ :: rest, locked := none }) _
  jvm_step X.here [X.here.top, hx, hd, hm', hret, hn]
  first | (intro acts; rw [hl _ acts rfl rfl rfl]) | rw [hl _ _ rfl rfl rfl]
  exact Steps.refl _
end New
end Jvm.RoadKit
namespace Jvm.Pilot.@@N@@
open Jvm Jvm.ClassFile Sem Op Lib Jvm.Free Jvm.Stand Jvm.LawKit Jvm.RoadKit Bundle Jvm.Pilot.@@N@@.Jvm.D
def QP (r : Option Value) (h0 : Heap) (n0 : Nat) (v : Option Value) (h : Heap) (L : List Loc) : Prop := v = r ∧ Fr n0 L ∧ h = h0
def QW (P : Option Value → Heap → Prop) (n0 : Nat) (v : Option Value) (h : Heap) (L : List Loc) : Prop := Fr n0 L ∧ P v h
def Q0 (n0 : Nat) (v : Option Value) (h : Heap) (L : List Loc) : Prop := v = some (.int 1) ∧ Fr n0 L
theorem own_selP {Z s : State} {a0 args : Array Value} {C : String} {y z w : MethodName} (hZ : Z.Warmed39 s.vm) (hs : (Jvm.Cond.selects C z w).before a0 Z = true) (he : w.cls = y.cls) (hp : (Jvm.Cond.privateMethod y).before a0 Z = true) (hi : (Jvm.Cond.instanceMethod y).before a0 Z = true) (hy : y.cls ≠ "java/lang/invoke/MethodHandle" ∧ y.cls ≠ "java/lang/invoke/VarHandle") : (Jvm.Cond.selects y.cls y y).before args s = true := by
  obtain ⟨c, r, m, -, -, k2, -, k, hk, hki⟩ := Cond.selects_spec (mvT hZ hs (args := args))
  have hc := findClass_of_methodNamed k2
  rw [he] at hc
  exact Jvm.Stand.selects_self_of_private hc hk hki (Cond.privateMethod_at (mvP hZ hp (args := #[]))) (mvT hZ hi) hy
theorem own_untk {h h' : Heap} {a : Addr} {ws : List Addr} (N : Unt h a) (K : Keep h h' ws) (q : a ∉ ws) : Unt h' a := by obtain ⟨c, h1, r⟩ := N; exact ⟨c, K.2.1 a c h1 q, r⟩
theorem own_byte (x : Int32) : x.toInt8.toInt32.toInt8.toInt32 = x.toInt8.toInt32 := by simp
theorem own_len {s : State} {args : Array Value} {t : Term} {a : Addr} {cl : Cell} {ty : FieldType} {n : Int32} (ev : t.eval args s none [] s = some (.ref a)) (A : Arr s s.heap a cl ty) (h : (Jvm.Cond.eq (Term.length t) (Term.int n)).value args s none s [] = some true) : cl.slots.size < 2 ^ 31 ∧ cl.slots.size.toInt32 = n := by
  have e := eqv_i (Term.int_eval _) h
  have ha := A.fin (Vm.Alike.refl _)
  by_cases q : cl.slots.size < 2 ^ 31
  · refine ⟨q, ?_⟩
    rw [len_f ev ha q] at e
    cases e; rfl
  · simp [Term.eval, ev, ha, q] at e
theorem own_eqr {s : State} {args : Array Value} {t u : Term} {y : Addr} (hu : u.eval args s none [] s = some (.ref y)) (h : (Jvm.Cond.eq t u).value args s none s [] = some true) : t.eval args s none [] s = some (.ref y) := by
  obtain ⟨x, y', e1, e2, k1, k2⟩ := cmp_v (Or.inl h)
  cases hu.symm.trans e2
  have hx : x.isRef = true := k2.2
  exact e1.trans (congrArg some (gotT (eq_R e1 hu hx rfl) h))
theorem own_sta_idx {s : State} {args : Array Value} {C n d : String} {v : Value} (h : (Term.static C n d).eval args s none [] s = some v) {idx : List Nat} : (Term.static C n d).eval args s none idx s = some v := h
theorem own_idx {s : State} {args : Array Value} {j : Int32} (hj : ¬ j < 0) : (Term.sub (Term.index 0) (Term.int 128)).eval args s none [j.toNatClampNeg] s = some (.int (j - (128 : Int32))) := by
  have e := idx_at (args := args) (s := s) (first := s) (o := none) hj
  show (do let x ← (Term.index 0).eval args s none [j.toNatClampNeg] s; let y ← (Term.int 128).eval args s none [j.toNatClampNeg] s; _) = _
  rw [e]; rfl
theorem own_plus1 {s : State} {args : Array Value} {t : Term} {a : Addr} {cl : Cell} {n : Int32} (hf : Fit s) (et : ∀ idx, t.eval args s none idx s = some (.ref a)) (A : Arr s s.heap a cl .int) (sz : cl.slots.size < 2 ^ 31) (z : cl.slots.size.toInt32 = n)
    (h : (Jvm.Cond.all t (.eq (.op1 .i2l (.elem t (.index 0))) (.op2 .ladd (.op1 .i2l (.index 0)) (.long 1)))).value args s none s [] = some true) (i : Nat) (k : Int32) (hi : i < n.toNatClampNeg) (hk : k.toInt64 = i.toInt32.toInt64 + 1) : cl.slots[i]? = some (.int k) := by
  have S : cl.slots.size = n.toNatClampNeg := by rw [← z]; simp only [Int32.toNatClampNeg, len_toInt sz]; rfl
  have hi' : i < cl.slots.size := S ▸ hi
  have e1 : (Nat.toInt32 i).toNatClampNeg = i := by simp only [Int32.toNatClampNeg, len_toInt (Nat.lt_trans hi' sz)]; rfl
  have hin : ¬ (i.toInt32 < 0 ∨ cl.slots.size ≤ i.toInt32.toNatClampNeg) := idx_in hi' sz
  have nn : ¬ i.toInt32 < 0 := fun q => hin (Or.inl q)
  have u := Cond.all_elim (et []) (A.fin (Vm.Alike.refl _)) h i hi'
  obtain ⟨v, hv, hfv⟩ := elem_fit hf A hin
  obtain ⟨x, rfl⟩ := fit_I hfv (Or.inl rfl)
  have ix : (Term.index 0).eval args s none [i] s = some (.int i.toInt32) := by
    have := idx_at (args := args) (s := s) (first := s) (o := none) nn
    rwa [e1] at this
  have el : (Term.elem t (.index 0)).eval args s none [i] s = some (.int x) := (elem_f (et _) ix (A.fin (Vm.Alike.refl _)) nn).trans hv
  have l1 := i2l_at el
  have l2 : (Term.op2 .ladd (.op1 .i2l (.index 0)) (.long 1)).eval args s none [i] s = some (.long (i.toInt32.toInt64 + 1)) := by
    rw [op2_f (i2l_at ix) (long_at 1)]; rfl
  have e := gotT (eq_L l1 l2) u
  have ex : x = k := by
    apply Int32.toInt_inj.mp
    have q := congrArg Int64.toInt (e.trans hk.symm)
    rwa [Int32.toInt_toInt64, Int32.toInt_toInt64] at q
  rw [e1] at hv
  rw [hv, ex]
def Wd (Z : State) (w_n2 : Addr) (w_n3 : Addr) (w_n4 : Addr) (w_n1 : Addr) (v_n0 : Int32) : Prop := Sta Z Z.heap "com/example/tillwire/tillwire/HttpFraming$BodyReader$Part" "TO_END" "Lcom/example/tillwire/tillwire/HttpFraming$BodyReader$Part;" (.ref w_n2) ∧ Exa Z Z.heap w_n2 "com/example/tillwire/tillwire/HttpFraming$BodyReader$Part" ∧ Sta Z Z.heap "com/example/tillwire/tillwire/HttpFraming$BodyReader$Part" "DONE" "Lcom/example/tillwire/tillwire/HttpFraming$BodyReader$Part;" (.ref w_n3) ∧ Exa Z Z.heap w_n3 "com/example/tillwire/tillwire/HttpFraming$BodyReader$Part" ∧ Sta Z Z.heap "com/example/tillwire/tillwire/HttpFraming$BodyReader$Part" "KEPT" "Lcom/example/tillwire/tillwire/HttpFraming$BodyReader$Part;" (.ref w_n4) ∧ Exa Z Z.heap w_n4 "com/example/tillwire/tillwire/HttpFraming$BodyReader$Part" ∧ Sta Z Z.heap "com/example/tillwire/tillwire/HttpFraming$BodyReader$Part" "SKIPPED" "Lcom/example/tillwire/tillwire/HttpFraming$BodyReader$Part;" (.ref w_n1) ∧ Exa Z Z.heap w_n1 "com/example/tillwire/tillwire/HttpFraming$BodyReader$Part" ∧ Sta Z Z.heap "java/lang/String" "COMPACT_STRINGS" "Z" (.int v_n0) ∧ ¬ (v_n0 = (0 : Int32)) ∧ Fld Z Z.heap w_n2 "java/lang/Enum" "ordinal" "I" (.int (2 : Int32)) ∧ Fld Z Z.heap w_n3 "java/lang/Enum" "ordinal" "I" (.int (6 : Int32))
set_option maxRecDepth 65536 in
set_option maxHeartbeats 4000000 in
theorem wd_start {s : State} {a0 : Array Value} (hfit : Fit s) (hw : ∀ d ∈ tables_1, d.before a0 s = true) (hsets : ∀ d ∈ jdkStatics_1, d.before a0 s = true) (hn : narrow_1.value a0 s none s [] = some true) : ∃ (w_n2 : Addr) (w_n3 : Addr) (w_n4 : Addr) (w_n1 : Addr) (v_n0 : Int32), Wd s w_n2 w_n3 w_n4 w_n1 v_n0 := by
  obtain ⟨q0, hn0⟩ := and_e hn
  obtain ⟨q1, hn1⟩ := and_e hn0
  obtain ⟨q2, hn2⟩ := and_e hn1
  obtain ⟨q3, hn3⟩ := and_e hn2
  obtain ⟨q4, hn4⟩ := and_e hn3
  have q5 := hn4
  obtain ⟨w_n2, ew_n2⟩ := exa_v q0
  have S_n2 := Sta.start ew_n2 (Or.inr ⟨(hw _ (List.mem_of_getElem? (i := 74) rfl)), (hw _ (List.mem_of_getElem? (i := 75) rfl))⟩)
  have E_n2 := Exa.start ew_n2 q0
  obtain ⟨w_n3, ew_n3⟩ := exa_v q1
  have S_n3 := Sta.start ew_n3 (Or.inr ⟨(hw _ (List.mem_of_getElem? (i := 74) rfl)), (hw _ (List.mem_of_getElem? (i := 84) rfl))⟩)
  have E_n3 := Exa.start ew_n3 q1
  obtain ⟨w_n4, ew_n4⟩ := exa_v q4
  have S_n4 := Sta.start ew_n4 (Or.inr ⟨(hw _ (List.mem_of_getElem? (i := 74) rfl)), (hw _ (List.mem_of_getElem? (i := 125) rfl))⟩)
  have E_n4 := Exa.start ew_n4 q4
  obtain ⟨w_n1, ew_n1⟩ := exa_v q5
  have S_n1 := Sta.start ew_n1 (Or.inr ⟨(hw _ (List.mem_of_getElem? (i := 74) rfl)), (hw _ (List.mem_of_getElem? (i := 135) rfl))⟩)
  have E_n1 := Exa.start ew_n1 q5
  obtain ⟨v_n0, ev_n0⟩ := is_v (Cond.before_iff.mp (hsets _ (List.mem_of_getElem? (i := 1) rfl)))
  have S_n0 := Sta.start ev_n0 (Or.inl (hsets _ (List.mem_of_getElem? (i := 0) rfl)))
  have N_n0 : ¬ (v_n0 = (0 : Int32)) := gotF (Cond.eq_ints ev_n0 (Term.int_eval _)) (not_v (Cond.before_iff.mp (hsets _ (List.mem_of_getElem? (i := 2) rfl))))
  have F_n2_ordinal := Fld.start ((fld_at ew_n2).symm.trans (eqv_i (Term.int_eval _) q2))
  have F_n3_ordinal := Fld.start ((fld_at ew_n3).symm.trans (eqv_i (Term.int_eval _) q3))
  exact ⟨w_n2, w_n3, w_n4, w_n1, v_n0, S_n2, E_n2, S_n3, E_n3, S_n4, E_n4, S_n1, E_n1, S_n0, N_n0, F_n2_ordinal, F_n3_ordinal⟩
theorem d5_0 : decode jdk_2038_method_1_code 0 = .ok (.aload_n 0, 1) := by decide +kernel
theorem d5_1 : decode jdk_2038_method_1_code 1 = .ok (.invokespecial 1, 3) := by decide +kernel
theorem d5_4 : decode jdk_2038_method_1_code 4 = .ok (.return_, 1) := by decide +kernel
theorem ef_5_0 (m : MethodId) (x0 : Addr) : entryFrame m #[(.ref x0)] 1 = mkF m 0 #[.val (.ref x0)] [] := by first | (simp [entryFrame, mkF, argsToLocals, Value.category]; done) | rfl
theorem pn_5 : plainName "java/io/OutputStream" = true := by first | (simp [plainName, overriddenIn]; done) | decide +kernel
set_option maxRecDepth 65536 in
set_option maxHeartbeats 40000000 in
theorem rm_os (l : Launch) (Z : State) (a0 : Array Value) (hw : ∀ d ∈ tables_1, d.before a0 Z = true) (ws : List Jvm.Cond) {w_n2 : Addr} {w_n3 : Addr} {w_n4 : Addr} {w_n1 : Addr} {v_n0 : Int32} (W : Wd Z w_n2 w_n3 w_n4 w_n1 v_n0) (a1 : Addr) (h0 : Heap) (n0 : Nat) (O0 : Old Z n0 h0) :
    MetFree l (⟨"java/io/OutputStream", "<init>", "()V"⟩ : MethodName) (head1 (Jvm.Cond.code (⟨"java/io/OutputStream", "<init>", "()V"⟩ : MethodName) jdk_2038_method_1_code 1 none :: ws) ({ frames := 1, cells := 0, slots := 0, locals := 12 } : Room)) (fun a U => a = #[(.ref a1)] ∧ Z.Warmed39 U.vm ∧ U.heap = h0) (fun _ _ _ _ _ => True) (fun _ U o U' => ∃ v L, o = .returned v ∧ QP (none) h0 n0 v U'.heap L ∧ FrameEnd U o U' L ({ frames := 1, cells := 0, slots := 0, locals := 12 } : Room).cells ({ frames := 1, cells := 0, slots := 0, locals := 12 } : Room).slots) := by
  have W' := W; obtain ⟨S_n2, E_n2, S_n3, E_n3, S_n4, E_n4, S_n1, E_n1, S_n0, N_n0, F_n2_ordinal, F_n3_ordinal⟩ := W'
  refine MetFree.of_bodySF (plainFor_of_name pn_5) hisR ?_
  intro p e s m args below meth c s₁ Bd hml0 hP hK
  obtain ⟨rfl, hZ, hh⟩ := hP
  have hx := Bd.exec
  have hby := Bd.bytes
  have hml : c.maxLocals = 1 := hml0
  have hown : s.vm.findClass "java/io/OutputStream" = some m.cls := findClass_of_methodNamed Bd.named
  have hnm := (name_of_methodNamed Bd.named Bd.method).1
  have X0 : Stand p l e ({ frames := 1, cells := 0, slots := 0, locals := 12 } : Room) s m #[(.ref a1)] below meth c s₁ [] 0 0 := Stand.of_body Bd
  have e0 : s₁.heap = h0 := by rw [← hh, Bd.state]; rfl
  have N0 := Fr.nil n0
  have pre0 : ∀ t, Steps p.tables e below (s₁.setTop (mkF m 0 #[.val (.ref a1)] [])) t → Steps p.tables e below (s₁.setTop (entryFrame m #[(.ref a1)] 1)) t := fun t k => castTop (ef_5_0 m a1) k
  obtain ⟨T1, X1, e1, st1⟩ := initO X0 hx hZ hown (hw _ (List.mem_of_getElem? (i := 27) rfl)) (hw _ (List.mem_of_getElem? (i := 9) rfl)) (hw _ (List.mem_of_getElem? (i := 10) rfl)) e0 (g := (mkF m 1 #[.val (.ref a1)] [(.ref a1)])) rfl (by rw [hml]; rfl) rfl (hb hby d5_1) (by decide) (W := 0) (by show 2 * 0 + _ ≤ _; exact Nat.le_of_eq rfl) (by decide)
  obtain ⟨fs, hr, hrun, hended, hW, hsame⟩ := X1.leave (v := none) (fun _ => rfl)
  refine ⟨_, _, pre0 _ ?_, hrun, hended, _, _, rfl, ?_, ⟨_, rfl⟩, hW, hsame.mono (by decide) (by decide)⟩
  · show Steps p.tables e below (s₁.setTop (mkF m 0 #[.val (.ref a1)] [])) _
    refine XS.aloadN X0.here hx rfl (hb hby d5_0) rfl rfl ?_
    show Steps p.tables e below (s₁.setTop (mkF m 1 #[.val (.ref a1)] [(.ref a1)])) _
    refine st1 _ ?_
    show Steps p.tables e below (T1.setTop (mkF m 4 #[.val (.ref a1)] [])) _
    exact X1.returnOut hx Bd.returns (hb hby d5_4) hr
  · show QP (none) h0 n0 _ T1.heap _
    rw [e1]
    exact ⟨rfl, N0, rfl⟩
theorem d4_0 : decode jdk_2005_method_2_code 0 = .ok (.aload_n 0, 1) := by decide +kernel
theorem d4_1 : decode jdk_2005_method_2_code 1 = .ok (.invokespecial 7, 3) := by decide +kernel
theorem d4_4 : decode jdk_2005_method_2_code 4 = .ok (.iload_n 1, 1) := by decide +kernel
theorem d4_5 : decode jdk_2005_method_2_code 5 = .ok (.ifCond .ge 30, 3) := by decide +kernel
theorem d4_35 : decode jdk_2005_method_2_code 35 = .ok (.aload_n 0, 1) := by decide +kernel
theorem d4_36 : decode jdk_2005_method_2_code 36 = .ok (.iload_n 1, 1) := by decide +kernel
theorem d4_37 : decode jdk_2005_method_2_code 37 = .ok (.newarray .byte, 2) := by decide +kernel
theorem d4_39 : decode jdk_2005_method_2_code 39 = .ok (.putfield 33, 3) := by decide +kernel
theorem d4_42 : decode jdk_2005_method_2_code 42 = .ok (.return_, 1) := by decide +kernel
theorem pd_0 : parseMethodDescriptor "()V" = some ⟨[], none⟩ := by decide +kernel
theorem ef_4_1 (m : MethodId) (x0 : Addr) (x1 : Int32) : entryFrame m #[(.ref x0), (.int x1)] 2 = mkF m 0 #[.val (.ref x0), .val (.int x1)] [] := by first | (simp [entryFrame, mkF, argsToLocals, Value.category]; done) | rfl
theorem pn_4 : plainName "java/io/ByteArrayOutputStream" = true := by first | (simp [plainName, overriddenIn]; done) | decide +kernel
set_option maxRecDepth 65536 in
set_option maxHeartbeats 40000000 in
theorem rm_boi (l : Launch) (Z : State) (a0 : Array Value) (hw : ∀ d ∈ tables_1, d.before a0 Z = true) (ws : List Jvm.Cond) {w_n2 : Addr} {w_n3 : Addr} {w_n4 : Addr} {w_n1 : Addr} {v_n0 : Int32} (W : Wd Z w_n2 w_n3 w_n4 w_n1 v_n0) (a1 : Addr) (h0 : Heap) (n0 : Nat) (O0 : Old Z n0 h0) (g_a1 : n0 ≤ a1) (hf0 : Exa Z h0 a1 "java/io/ByteArrayOutputStream") (hf1 : Unt h0 a1) (hf2 : Fld Z h0 a1 "java/io/ByteArrayOutputStream" "buf" "[B" .null) (hf3 : Fld Z h0 a1 "java/io/ByteArrayOutputStream" "count" "I" (.int (0 : Int32))) :
    MetFree l (⟨"java/io/ByteArrayOutputStream", "<init>", "(I)V"⟩ : MethodName) (head1 (Jvm.Cond.code (⟨"java/io/ByteArrayOutputStream", "<init>", "(I)V"⟩ : MethodName) jdk_2005_method_2_code 2 none :: ws) ({ frames := 2, cells := 1, slots := 32, locals := 24 } : Room)) (fun a U => a = #[(.ref a1), (.int (32 : Int32))] ∧ Z.Warmed39 U.vm ∧ U.heap = h0) (fun _ _ _ _ _ => True) (fun _ U o U' => ∃ v L, o = .returned v ∧ QW (fun v h => ∃ b2 : Addr, ∃ k2 : ClassId, v = none ∧ Keep h0 h [a1] ∧ n0 ≤ b2 ∧ h0.size ≤ b2 ∧ Exa Z h a1 "java/io/ByteArrayOutputStream" ∧ Unt h a1 ∧ Fld Z h a1 "java/io/ByteArrayOutputStream" "buf" "[B" (.ref b2) ∧ Fld Z h a1 "java/io/ByteArrayOutputStream" "count" "I" (.int (0 : Int32)) ∧ Exa Z h b2 "[B" ∧ Arv Z h b2 k2 .byte (32 : Int32) [] (.int (0 : Int32))) n0 v U'.heap L ∧ FrameEnd U o U' L ({ frames := 2, cells := 1, slots := 32, locals := 24 } : Room).cells ({ frames := 2, cells := 1, slots := 32, locals := 24 } : Room).slots) := by
  have W' := W; obtain ⟨S_n2, E_n2, S_n3, E_n3, S_n4, E_n4, S_n1, E_n1, S_n0, N_n0, F_n2_ordinal, F_n3_ordinal⟩ := W'
  refine MetFree.of_bodySF (plainFor_of_name pn_4) hisR ?_
  intro p e s m args below meth c s₁ Bd hml0 hP hK
  obtain ⟨rfl, hZ, hh⟩ := hP
  have hx := Bd.exec
  have hby := Bd.bytes
  have hml : c.maxLocals = 2 := hml0
  have hown : s.vm.findClass "java/io/ByteArrayOutputStream" = some m.cls := findClass_of_methodNamed Bd.named
  have hnm := (name_of_methodNamed Bd.named Bd.method).1
  have X0 : Stand p l e ({ frames := 2, cells := 1, slots := 32, locals := 24 } : Room) s m #[(.ref a1), (.int (32 : Int32))] below meth c s₁ [] 0 0 := Stand.of_body Bd
  have e0 : s₁.heap = h0 := by rw [← hh, Bd.state]; rfl
  have N0 := Fr.nil n0
  have pre0 : ∀ t, Steps p.tables e below (s₁.setTop (mkF m 0 #[.val (.ref a1), .val (.int (32 : Int32))] [])) t → Steps p.tables e below (s₁.setTop (entryFrame m #[(.ref a1), (.int (32 : Int32))] 2)) t := fun t k => castTop (ef_4_1 m a1 (32 : Int32)) k
  obtain ⟨_, _, ⟨T1, L1, k1, n1⟩, -, X1, ⟨Lc1, hQ1, l1, y1, z1⟩, st1⟩ := X0.specialBack hx (y := (⟨"java/io/OutputStream", "<init>", "()V"⟩ : MethodName)) rfl hown (mvT hZ (hw _ (List.mem_of_getElem? (i := 21) rfl))) (mvT hZ (hw _ (List.mem_of_getElem? (i := 22) rfl))) (mvT hZ (hw _ (List.mem_of_getElem? (i := 26) rfl))) (by decide) (backOf (W := 0) (rm_os l Z a0 hw [] W a1 h0 n0 O0 ) hZ (hw _ (List.mem_of_getElem? (i := 26) rfl)) (hw _ (List.mem_of_getElem? (i := 25) rfl)) (by decide) (by decide)) (g := (mkF m 1 #[.val (.ref a1), .val (.int (32 : Int32))] [(.ref a1)])) rfl (by rw [hml]; rfl) (Steps.refl _) (a := a1) (argsL := []) (rest := []) (lenOf pd_0 rfl) rfl (by show 2 * 0 + _ ≤ _; exact Nat.le_of_eq rfl) (hb hby d4_1) (fun _ _ => ⟨rfl, e0, (by decide : 0 + 0 ≤ _), (by decide : 0 + 0 ≤ _)⟩)
  dsimp only [Pt.U, Pt.locs, Pt.cells, Pt.slots] at X1 l1 y1 z1 st1 hQ1
  subst l1 y1 z1
  obtain ⟨rfl, N1q, e1⟩ := hQ1
  have N1 := Fr.app N0 N1q
  obtain ⟨T2, h2, k2, X2, e2, E2, A2, B2, st2⟩ := newPE X1 hx hZ (hw _ (List.mem_of_getElem? (i := 28) rfl)) e1 (g := (mkF m 37 #[.val (.ref a1), .val (.int (32 : Int32))] [(.int (32 : Int32)), (.ref a1)])) rfl (hb hby d4_37) rfl (by decide) (cap := 32) (by decide) (by decide) (by decide) (by decide) (ad := "[B") (by decide)
  obtain ⟨b2, g2⟩ : ∃ z, z = h0.size := ⟨_, rfl⟩
  rw [← g2] at A2 B2 st2
  have lt_a1_b2 : a1 < h0.size := (hf0).lt
  have g_b2 : n0 ≤ b2 := by rw [g2]; exact O0.1 ▸ O0.2.1
  have sz_b2 : h0.size ≤ b2 := by rw [g2]; exact (Keep.refl h0 [a1]).1
  have f2_0 : Exa Z h2 a1 "java/io/ByteArrayOutputStream" := (hf0).ext E2
  have f2_1 : Unt h2 a1 := Unt.ext E2 hf1
  have f2_2 : Fld Z h2 a1 "java/io/ByteArrayOutputStream" "buf" "[B" .null := (hf2).ext E2
  have f2_3 : Fld Z h2 a1 "java/io/ByteArrayOutputStream" "count" "I" (.int (0 : Int32)) := (hf3).ext E2
  have O2 := O0.ext E2
  have K2 : Keep h0 h2 [a1] := (Keep.refl h0 [a1]).ext E2
  have fv2 : Arv Z h2 b2 k2 .byte (32 : Int32) [] (.int (0 : Int32)) := Arv.new A2 (by decide)
  obtain ⟨T3, h3, X3, e3, W3, st3⟩ := putF X2 hx hZ hown (host := "") (Or.inl (hw _ (List.mem_of_getElem? (i := 29) rfl))) Via.refl e2 f2_2 f2_0 (Or.inl (hw _ (List.mem_of_getElem? (i := 30) rfl))) (hw _ (List.mem_of_getElem? (i := 12) rfl)) (ty := (.array .byte)) (by decide) rfl rfl (g := (mkF m 39 #[.val (.ref a1), .val (.int (32 : Int32))] [(.ref b2), (.ref a1)])) rfl rfl (hb hby d4_39)
  have fw3 : Fld Z h3 a1 "java/io/ByteArrayOutputStream" "buf" "[B" (.ref b2) := (f2_2).same W3
  have f3_0 : Exa Z h3 a1 "java/io/ByteArrayOutputStream" := (f2_0).wr W3
  have f3_1 : Unt h3 a1 := Unt.wr W3 f2_1
  have f3_2 : Fld Z h3 a1 "java/io/ByteArrayOutputStream" "count" "I" (.int (0 : Int32)) := (f2_3).other W3 (Or.inr (slot_ne (Or.inl (hw _ (List.mem_of_getElem? (i := 106) rfl))) (Or.inl (hw _ (List.mem_of_getElem? (i := 30) rfl))) (by decide) (t := .int) (t' := (.array .byte)) (by decide) (by decide)))
  have f3_3 : Arv Z h3 b2 k2 .byte (32 : Int32) [] (.int (0 : Int32)) := (fv2).other W3 (ne_exa B2 f2_0 (by decide))
  have f3_4 : Exa Z h3 b2 "[B" := (B2).wr W3
  have O3 := O2.wr W3 g_a1
  have N3 := Fr.snoc X3 N1 g_a1
  have K3 : Keep h0 h3 [a1] := K2.wr W3 (Or.inl (List.mem_of_getElem? (i := 0) rfl))
  obtain ⟨fs, hr, hrun, hended, hW, hsame⟩ := X3.leave (v := none) (fun _ => rfl)
  refine ⟨_, _, pre0 _ ?_, hrun, hended, _, _, rfl, ?_, ⟨_, rfl⟩, hW, hsame.mono (by decide) (by decide)⟩
  · show Steps p.tables e below (s₁.setTop (mkF m 0 #[.val (.ref a1), .val (.int (32 : Int32))] [])) _
    refine XS.aloadN X0.here hx rfl (hb hby d4_0) rfl rfl ?_
    show Steps p.tables e below (s₁.setTop (mkF m 1 #[.val (.ref a1), .val (.int (32 : Int32))] [(.ref a1)])) _
    refine st1.trans ?_
    show Steps p.tables e below (T1.setTop (mkF m 4 #[.val (.ref a1), .val (.int (32 : Int32))] [])) _
    refine XS.iloadN X1.here hx rfl (hb hby d4_4) rfl ?_
    show Steps p.tables e below (T1.setTop (mkF m 5 #[.val (.ref a1), .val (.int (32 : Int32))] [(.int (32 : Int32))])) _
    refine XS.ifYes X1.here hx rfl (pc0 := 5) (pc' := 35) rfl (hb hby d4_5) rfl ((if0 _ _).trans (flt ((by decide) : ¬ ((32 : Int32) < (0 : Int32)))).2.1) (by decide) (by decide) ?_
    show Steps p.tables e below (T1.setTop (mkF m 35 #[.val (.ref a1), .val (.int (32 : Int32))] [])) _
    refine XS.aloadN X1.here hx rfl (hb hby d4_35) rfl rfl ?_
    show Steps p.tables e below (T1.setTop (mkF m 36 #[.val (.ref a1), .val (.int (32 : Int32))] [(.ref a1)])) _
    refine XS.iloadN X1.here hx rfl (hb hby d4_36) rfl ?_
    show Steps p.tables e below (T1.setTop (mkF m 37 #[.val (.ref a1), .val (.int (32 : Int32))] [(.int (32 : Int32)), (.ref a1)])) _
    refine st2 _ ?_
    show Steps p.tables e below (T2.setTop (mkF m 39 #[.val (.ref a1), .val (.int (32 : Int32))] [(.ref b2), (.ref a1)])) _
    refine st3 _ ?_
    show Steps p.tables e below (T3.setTop (mkF m 42 #[.val (.ref a1), .val (.int (32 : Int32))] [])) _
    exact X3.returnOut hx Bd.returns (hb hby d4_42) hr
  · show QW (fun v h => ∃ b2 : Addr, ∃ k2 : ClassId, v = none ∧ Keep h0 h [a1] ∧ n0 ≤ b2 ∧ h0.size ≤ b2 ∧ Exa Z h a1 "java/io/ByteArrayOutputStream" ∧ Unt h a1 ∧ Fld Z h a1 "java/io/ByteArrayOutputStream" "buf" "[B" (.ref b2) ∧ Fld Z h a1 "java/io/ByteArrayOutputStream" "count" "I" (.int (0 : Int32)) ∧ Exa Z h b2 "[B" ∧ Arv Z h b2 k2 .byte (32 : Int32) [] (.int (0 : Int32))) n0 _ T3.heap _
    rw [e3]
    exact ⟨N3, ⟨b2, k2, rfl, K3, g_b2, sz_b2, f3_0, f3_1, fw3, f3_2, f3_4, f3_3⟩⟩
theorem d3_0 : decode jdk_2005_method_1_code 0 = .ok (.aload_n 0, 1) := by decide +kernel
theorem d3_1 : decode jdk_2005_method_1_code 1 = .ok (.bipush 32, 2) := by decide +kernel
theorem d3_3 : decode jdk_2005_method_1_code 3 = .ok (.invokespecial 1, 3) := by decide +kernel
theorem d3_6 : decode jdk_2005_method_1_code 6 = .ok (.return_, 1) := by decide +kernel
theorem pd_1 : parseMethodDescriptor "(I)V" = some ⟨[.int], none⟩ := by decide +kernel
theorem ef_3_2 (m : MethodId) (x0 : Addr) : entryFrame m #[(.ref x0)] 1 = mkF m 0 #[.val (.ref x0)] [] := by first | (simp [entryFrame, mkF, argsToLocals, Value.category]; done) | rfl
theorem pn_3 : plainName "java/io/ByteArrayOutputStream" = true := by first | (simp [plainName, overriddenIn]; done) | decide +kernel
set_option maxRecDepth 65536 in
set_option maxHeartbeats 40000000 in
theorem rm_bo (l : Launch) (Z : State) (a0 : Array Value) (hw : ∀ d ∈ tables_1, d.before a0 Z = true) (ws : List Jvm.Cond) {w_n2 : Addr} {w_n3 : Addr} {w_n4 : Addr} {w_n1 : Addr} {v_n0 : Int32} (W : Wd Z w_n2 w_n3 w_n4 w_n1 v_n0) (a1 : Addr) (h0 : Heap) (n0 : Nat) (O0 : Old Z n0 h0) (g_a1 : n0 ≤ a1) (hf0 : Exa Z h0 a1 "java/io/ByteArrayOutputStream") (hf1 : Unt h0 a1) (hf2 : Fld Z h0 a1 "java/io/ByteArrayOutputStream" "buf" "[B" .null) (hf3 : Fld Z h0 a1 "java/io/ByteArrayOutputStream" "count" "I" (.int (0 : Int32))) :
    MetFree l (⟨"java/io/ByteArrayOutputStream", "<init>", "()V"⟩ : MethodName) (head1 (Jvm.Cond.code (⟨"java/io/ByteArrayOutputStream", "<init>", "()V"⟩ : MethodName) jdk_2005_method_1_code 1 none :: ws) ({ frames := 3, cells := 1, slots := 32, locals := 37 } : Room)) (fun a U => a = #[(.ref a1)] ∧ Z.Warmed39 U.vm ∧ U.heap = h0) (fun _ _ _ _ _ => True) (fun _ U o U' => ∃ v L, o = .returned v ∧ QW (fun v h => ∃ b1_b2 : Addr, ∃ k1_k2 : ClassId, v = none ∧ Keep h0 h [a1] ∧ n0 ≤ b1_b2 ∧ h0.size ≤ b1_b2 ∧ Exa Z h a1 "java/io/ByteArrayOutputStream" ∧ Unt h a1 ∧ Fld Z h a1 "java/io/ByteArrayOutputStream" "buf" "[B" (.ref b1_b2) ∧ Fld Z h a1 "java/io/ByteArrayOutputStream" "count" "I" (.int (0 : Int32)) ∧ Exa Z h b1_b2 "[B" ∧ Arv Z h b1_b2 k1_k2 .byte (32 : Int32) [] (.int (0 : Int32))) n0 v U'.heap L ∧ FrameEnd U o U' L ({ frames := 3, cells := 1, slots := 32, locals := 37 } : Room).cells ({ frames := 3, cells := 1, slots := 32, locals := 37 } : Room).slots) := by
  have W' := W; obtain ⟨S_n2, E_n2, S_n3, E_n3, S_n4, E_n4, S_n1, E_n1, S_n0, N_n0, F_n2_ordinal, F_n3_ordinal⟩ := W'
  refine MetFree.of_bodySF (plainFor_of_name pn_3) hisR ?_
  intro p e s m args below meth c s₁ Bd hml0 hP hK
  obtain ⟨rfl, hZ, hh⟩ := hP
  have hx := Bd.exec
  have hby := Bd.bytes
  have hml : c.maxLocals = 1 := hml0
  have hown : s.vm.findClass "java/io/ByteArrayOutputStream" = some m.cls := findClass_of_methodNamed Bd.named
  have hnm := (name_of_methodNamed Bd.named Bd.method).1
  have X0 : Stand p l e ({ frames := 3, cells := 1, slots := 32, locals := 37 } : Room) s m #[(.ref a1)] below meth c s₁ [] 0 0 := Stand.of_body Bd
  have e0 : s₁.heap = h0 := by rw [← hh, Bd.state]; rfl
  have N0 := Fr.nil n0
  have pre0 : ∀ t, Steps p.tables e below (s₁.setTop (mkF m 0 #[.val (.ref a1)] [])) t → Steps p.tables e below (s₁.setTop (entryFrame m #[(.ref a1)] 1)) t := fun t k => castTop (ef_3_2 m a1) k
  obtain ⟨_, _, ⟨T1, L1, k1, n1⟩, -, X1, ⟨Lc1, hQ1, l1, y1, z1⟩, st1⟩ := X0.specialBack hx (y := (⟨"java/io/ByteArrayOutputStream", "<init>", "(I)V"⟩ : MethodName)) rfl hown (mvT hZ (hw _ (List.mem_of_getElem? (i := 17) rfl))) (mvT hZ (hw _ (List.mem_of_getElem? (i := 18) rfl))) (mvT hZ (hw _ (List.mem_of_getElem? (i := 20) rfl))) (by decide) (backOf (W := 0) (rm_boi l Z a0 hw [] W a1 h0 n0 O0 g_a1 hf0 hf1 hf2 hf3) hZ (hw _ (List.mem_of_getElem? (i := 20) rfl)) (hw _ (List.mem_of_getElem? (i := 13) rfl)) (by decide) (by decide)) (g := (mkF m 3 #[.val (.ref a1)] [(.int (32 : Int32)), (.ref a1)])) rfl (by rw [hml]; rfl) (Steps.refl _) (a := a1) (argsL := [(.int (32 : Int32))]) (rest := []) (lenOf pd_1 rfl) rfl (by show 2 * 0 + _ ≤ _; exact Nat.le_of_eq rfl) (hb hby d3_3) (fun _ _ => ⟨rfl, e0, (by decide : 0 + 1 ≤ _), (by decide : 0 + 32 ≤ _)⟩)
  dsimp only [Pt.U, Pt.locs, Pt.cells, Pt.slots] at X1 l1 y1 z1 st1 hQ1
  subst l1 y1 z1
  obtain ⟨N1q, hP1⟩ := hQ1
  have N1 := Fr.app N0 N1q
  obtain ⟨b1_b2, k1_k2, rfl, Kp1, g_b1_b2, si_b1_b2, fp1_0, fp1_1, fp1_2, fp1_3, fp1_4, fp1_5⟩ := hP1
  have f1_0 : Exa Z T1.heap a1 "java/io/ByteArrayOutputStream" := (hf0).keep Kp1
  have O1 := O0.keep Kp1 (allS g_a1 all0)
  have sz_b1_b2 : h0.size ≤ b1_b2 := Nat.le_trans ((Keep.refl h0 [a1])).1 si_b1_b2
  have K1 : Keep h0 T1.heap [a1] := (Keep.refl h0 [a1]).trans Kp1 (allS (Or.inl (List.mem_of_getElem? (i := 0) rfl)) all0)
  obtain ⟨fs, hr, hrun, hended, hW, hsame⟩ := X1.leave (v := none) (fun _ => rfl)
  refine ⟨_, _, pre0 _ ?_, hrun, hended, _, _, rfl, ?_, ⟨_, rfl⟩, hW, hsame.mono (by decide) (by decide)⟩
  · show Steps p.tables e below (s₁.setTop (mkF m 0 #[.val (.ref a1)] [])) _
    refine XS.aloadN X0.here hx rfl (hb hby d3_0) rfl rfl ?_
    show Steps p.tables e below (s₁.setTop (mkF m 1 #[.val (.ref a1)] [(.ref a1)])) _
    refine XS.bipush X0.here hx rfl (hb hby d3_1) ?_
    show Steps p.tables e below (s₁.setTop (mkF m 3 #[.val (.ref a1)] [(.int (32 : Int32)), (.ref a1)])) _
    refine st1.trans ?_
    show Steps p.tables e below (T1.setTop (mkF m 6 #[.val (.ref a1)] [])) _
    exact X1.returnOut hx Bd.returns (hb hby d3_6) hr
  · show QW (fun v h => ∃ b1_b2 : Addr, ∃ k1_k2 : ClassId, v = none ∧ Keep h0 h [a1] ∧ n0 ≤ b1_b2 ∧ h0.size ≤ b1_b2 ∧ Exa Z h a1 "java/io/ByteArrayOutputStream" ∧ Unt h a1 ∧ Fld Z h a1 "java/io/ByteArrayOutputStream" "buf" "[B" (.ref b1_b2) ∧ Fld Z h a1 "java/io/ByteArrayOutputStream" "count" "I" (.int (0 : Int32)) ∧ Exa Z h b1_b2 "[B" ∧ Arv Z h b1_b2 k1_k2 .byte (32 : Int32) [] (.int (0 : Int32))) n0 _ T1.heap _
    exact ⟨N1, ⟨b1_b2, k1_k2, rfl, K1, g_b1_b2, sz_b1_b2, fp1_0, fp1_1, fp1_2, fp1_3, fp1_4, fp1_5⟩⟩
theorem d8_0 : decode jdk_68_method_2_code 0 = .ok (.aload_n 0, 1) := by decide +kernel
theorem d8_1 : decode jdk_68_method_2_code 1 = .ok (.invokespecial 3, 3) := by decide +kernel
theorem d8_4 : decode jdk_68_method_2_code 4 = .ok (.getstatic 18, 3) := by decide +kernel
theorem d8_7 : decode jdk_68_method_2_code 7 = .ok (.ifCond .eq 18, 3) := by decide +kernel
theorem d8_10 : decode jdk_68_method_2_code 10 = .ok (.aload_n 0, 1) := by decide +kernel
theorem d8_11 : decode jdk_68_method_2_code 11 = .ok (.iload_n 1, 1) := by decide +kernel
theorem d8_12 : decode jdk_68_method_2_code 12 = .ok (.newarray .byte, 2) := by decide +kernel
theorem d8_14 : decode jdk_68_method_2_code 14 = .ok (.putfield 15, 3) := by decide +kernel
theorem d8_17 : decode jdk_68_method_2_code 17 = .ok (.aload_n 0, 1) := by decide +kernel
theorem d8_18 : decode jdk_68_method_2_code 18 = .ok (.iconst 0, 1) := by decide +kernel
theorem d8_19 : decode jdk_68_method_2_code 19 = .ok (.putfield 22, 3) := by decide +kernel
theorem d8_22 : decode jdk_68_method_2_code 22 = .ok (.goto 16, 3) := by decide +kernel
theorem d8_38 : decode jdk_68_method_2_code 38 = .ok (.return_, 1) := by decide +kernel
theorem ef_8_3 (m : MethodId) (x0 : Addr) (x1 : Int32) : entryFrame m #[(.ref x0), (.int x1)] 2 = mkF m 0 #[.val (.ref x0), .val (.int x1)] [] := by first | (simp [entryFrame, mkF, argsToLocals, Value.category]; done) | rfl
theorem pn_8 : plainName "java/lang/AbstractStringBuilder" = true := by first | (simp [plainName, overriddenIn]; done) | decide +kernel
set_option maxRecDepth 65536 in
set_option maxHeartbeats 40000000 in
theorem rm_asb (l : Launch) (Z : State) (a0 : Array Value) (hw : ∀ d ∈ tables_1, d.before a0 Z = true) (ws : List Jvm.Cond) {w_n2 : Addr} {w_n3 : Addr} {w_n4 : Addr} {w_n1 : Addr} {v_n0 : Int32} (W : Wd Z w_n2 w_n3 w_n4 w_n1 v_n0) (a1 : Addr) (h0 : Heap) (n0 : Nat) (O0 : Old Z n0 h0) (g_a1 : n0 ≤ a1) (hf0 : Exa Z h0 a1 "java/lang/StringBuilder") (hf1 : Fld Z h0 a1 "java/lang/AbstractStringBuilder" "value" "[B" .null) (hf2 : Fld Z h0 a1 "java/lang/AbstractStringBuilder" "coder" "B" (.int (0 : Int32))) :
    MetFree l (⟨"java/lang/AbstractStringBuilder", "<init>", "(I)V"⟩ : MethodName) (head1 (Jvm.Cond.code (⟨"java/lang/AbstractStringBuilder", "<init>", "(I)V"⟩ : MethodName) jdk_68_method_2_code 2 none :: ws) ({ frames := 1, cells := 1, slots := 16, locals := 12 } : Room)) (fun a U => a = #[(.ref a1), (.int (16 : Int32))] ∧ Z.Warmed39 U.vm ∧ U.heap = h0) (fun _ _ _ _ _ => True) (fun _ U o U' => ∃ v L, o = .returned v ∧ QW (fun v h => v = none ∧ Keep h0 h [a1] ∧ Exa Z h a1 "java/lang/StringBuilder") n0 v U'.heap L ∧ FrameEnd U o U' L ({ frames := 1, cells := 1, slots := 16, locals := 12 } : Room).cells ({ frames := 1, cells := 1, slots := 16, locals := 12 } : Room).slots) := by
  have W' := W; obtain ⟨S_n2, E_n2, S_n3, E_n3, S_n4, E_n4, S_n1, E_n1, S_n0, N_n0, F_n2_ordinal, F_n3_ordinal⟩ := W'
  refine MetFree.of_bodySF (plainFor_of_name pn_8) hisR ?_
  intro p e s m args below meth c s₁ Bd hml0 hP hK
  obtain ⟨rfl, hZ, hh⟩ := hP
  have hx := Bd.exec
  have hby := Bd.bytes
  have hml : c.maxLocals = 2 := hml0
  have hown : s.vm.findClass "java/lang/AbstractStringBuilder" = some m.cls := findClass_of_methodNamed Bd.named
  have hnm := (name_of_methodNamed Bd.named Bd.method).1
  have X0 : Stand p l e ({ frames := 1, cells := 1, slots := 16, locals := 12 } : Room) s m #[(.ref a1), (.int (16 : Int32))] below meth c s₁ [] 0 0 := Stand.of_body Bd
  have e0 : s₁.heap = h0 := by rw [← hh, Bd.state]; rfl
  have N0 := Fr.nil n0
  have pre0 : ∀ t, Steps p.tables e below (s₁.setTop (mkF m 0 #[.val (.ref a1), .val (.int (16 : Int32))] [])) t → Steps p.tables e below (s₁.setTop (entryFrame m #[(.ref a1), (.int (16 : Int32))] 2)) t := fun t k => castTop (ef_8_3 m a1 (16 : Int32)) k
  obtain ⟨T1, X1, e1, st1⟩ := initO X0 hx hZ hown (hw _ (List.mem_of_getElem? (i := 52) rfl)) (hw _ (List.mem_of_getElem? (i := 9) rfl)) (hw _ (List.mem_of_getElem? (i := 10) rfl)) e0 (g := (mkF m 1 #[.val (.ref a1), .val (.int (16 : Int32))] [(.ref a1)])) rfl (by rw [hml]; rfl) rfl (hb hby d8_1) (by decide) (W := 0) (by show 2 * 0 + _ ≤ _; exact Nat.le_of_eq rfl) (by decide)
  obtain ⟨T2, X2, e2, st2⟩ := getS2 X1 hx hZ hown (host := "") (Or.inl (hw _ (List.mem_of_getElem? (i := 53) rfl))) Via.refl e1 (S_n0.ext O0.2) (g := (mkF m 4 #[.val (.ref a1), .val (.int (16 : Int32))] [])) rfl (hb hby d8_4)
  obtain ⟨T3, h3, k3, X3, e3, E3, A3, B3, st3⟩ := newPE X2 hx hZ (hw _ (List.mem_of_getElem? (i := 28) rfl)) e2 (g := (mkF m 12 #[.val (.ref a1), .val (.int (16 : Int32))] [(.int (16 : Int32)), (.ref a1)])) rfl (hb hby d8_12) rfl (by decide) (cap := 16) (by decide) (by decide) (by decide) (by decide) (ad := "[B") (by decide)
  obtain ⟨b3, g3⟩ : ∃ z, z = h0.size := ⟨_, rfl⟩
  rw [← g3] at A3 B3 st3
  have lt_a1_b3 : a1 < h0.size := (hf0).lt
  have g_b3 : n0 ≤ b3 := by rw [g3]; exact O0.1 ▸ O0.2.1
  have sz_b3 : h0.size ≤ b3 := by rw [g3]; exact (Keep.refl h0 [a1]).1
  have f3_0 : Exa Z h3 a1 "java/lang/StringBuilder" := (hf0).ext E3
  have f3_1 : Fld Z h3 a1 "java/lang/AbstractStringBuilder" "value" "[B" .null := (hf1).ext E3
  have f3_2 : Fld Z h3 a1 "java/lang/AbstractStringBuilder" "coder" "B" (.int (0 : Int32)) := (hf2).ext E3
  have O3 := O0.ext E3
  have K3 : Keep h0 h3 [a1] := (Keep.refl h0 [a1]).ext E3
  have fv3 : Arv Z h3 b3 k3 .byte (16 : Int32) [] (.int (0 : Int32)) := Arv.new A3 (by decide)
  obtain ⟨T4, h4, X4, e4, W4, st4⟩ := putF X3 hx hZ hown (host := "") (Or.inl (hw _ (List.mem_of_getElem? (i := 55) rfl))) Via.refl e3 f3_1 f3_0 (Or.inl (hw _ (List.mem_of_getElem? (i := 56) rfl))) (hw _ (List.mem_of_getElem? (i := 41) rfl)) (ty := (.array .byte)) (by decide) rfl rfl (g := (mkF m 14 #[.val (.ref a1), .val (.int (16 : Int32))] [(.ref b3), (.ref a1)])) rfl rfl (hb hby d8_14)
  have fw4 : Fld Z h4 a1 "java/lang/AbstractStringBuilder" "value" "[B" (.ref b3) := (f3_1).same W4
  have f4_0 : Exa Z h4 a1 "java/lang/StringBuilder" := (f3_0).wr W4
  have f4_1 : Fld Z h4 a1 "java/lang/AbstractStringBuilder" "coder" "B" (.int (0 : Int32)) := (f3_2).other W4 (Or.inr (slot_ne (Or.inl (hw _ (List.mem_of_getElem? (i := 58) rfl))) (Or.inl (hw _ (List.mem_of_getElem? (i := 56) rfl))) (by decide) (t := .byte) (t' := (.array .byte)) (by decide) (by decide)))
  have f4_2 : Arv Z h4 b3 k3 .byte (16 : Int32) [] (.int (0 : Int32)) := (fv3).other W4 (ne_exa B3 f3_0 (by decide))
  have f4_3 : Exa Z h4 b3 "[B" := (B3).wr W4
  have O4 := O3.wr W4 g_a1
  have N4 := Fr.snoc X4 N0 g_a1
  have K4 : Keep h0 h4 [a1] := K3.wr W4 (Or.inl (List.mem_of_getElem? (i := 0) rfl))
  obtain ⟨T5, h5, X5, e5, W5, st5⟩ := putFN X4 hx hZ hown (hw _ (List.mem_of_getElem? (i := 57) rfl)) Via.refl e4 f4_1 f4_0 (Or.inl (hw _ (List.mem_of_getElem? (i := 58) rfl))) (hw _ (List.mem_of_getElem? (i := 41) rfl)) (ty := .byte) (v' := (.int (0 : Int32))) (by decide) rfl rfl (g := (mkF m 19 #[.val (.ref a1), .val (.int (16 : Int32))] [(.int (0 : Int32)), (.ref a1)])) rfl rfl (hb hby d8_19)
  have fw5 : Fld Z h5 a1 "java/lang/AbstractStringBuilder" "coder" "B" (.int (0 : Int32)) := (f4_1).same W5
  have f5_0 : Exa Z h5 a1 "java/lang/StringBuilder" := (f4_0).wr W5
  have f5_1 : Arv Z h5 b3 k3 .byte (16 : Int32) [] (.int (0 : Int32)) := (f4_2).other W5 (ne_exa f4_3 f4_0 (by decide))
  have f5_2 : Exa Z h5 b3 "[B" := (f4_3).wr W5
  have f5_3 : Fld Z h5 a1 "java/lang/AbstractStringBuilder" "value" "[B" (.ref b3) := (fw4).other W5 (Or.inr (slot_ne (Or.inl (hw _ (List.mem_of_getElem? (i := 56) rfl))) (Or.inl (hw _ (List.mem_of_getElem? (i := 58) rfl))) (by decide) (t := (.array .byte)) (t' := .byte) (by decide) (by decide)))
  have O5 := O4.wr W5 g_a1
  have N5 := Fr.snoc X5 N4 g_a1
  have K5 : Keep h0 h5 [a1] := K4.wr W5 (Or.inl (List.mem_of_getElem? (i := 0) rfl))
  obtain ⟨fs, hr, hrun, hended, hW, hsame⟩ := X5.leave (v := none) (fun _ => rfl)
  refine ⟨_, _, pre0 _ ?_, hrun, hended, _, _, rfl, ?_, ⟨_, rfl⟩, hW, hsame.mono (by decide) (by decide)⟩
  · show Steps p.tables e below (s₁.setTop (mkF m 0 #[.val (.ref a1), .val (.int (16 : Int32))] [])) _
    refine XS.aloadN X0.here hx rfl (hb hby d8_0) rfl rfl ?_
    show Steps p.tables e below (s₁.setTop (mkF m 1 #[.val (.ref a1), .val (.int (16 : Int32))] [(.ref a1)])) _
    refine st1 _ ?_
    show Steps p.tables e below (T1.setTop (mkF m 4 #[.val (.ref a1), .val (.int (16 : Int32))] [])) _
    refine st2 _ ?_
    show Steps p.tables e below (T2.setTop (mkF m 7 #[.val (.ref a1), .val (.int (16 : Int32))] [(.int v_n0)])) _
    refine XS.ifNo X2.here hx rfl (hb hby d8_7) rfl ((if0 _ _).trans (feq (N_n0 : ¬ (v_n0 = (0 : Int32)))).1) ?_
    show Steps p.tables e below (T2.setTop (mkF m 10 #[.val (.ref a1), .val (.int (16 : Int32))] [])) _
    refine XS.aloadN X2.here hx rfl (hb hby d8_10) rfl rfl ?_
    show Steps p.tables e below (T2.setTop (mkF m 11 #[.val (.ref a1), .val (.int (16 : Int32))] [(.ref a1)])) _
    refine XS.iloadN X2.here hx rfl (hb hby d8_11) rfl ?_
    show Steps p.tables e below (T2.setTop (mkF m 12 #[.val (.ref a1), .val (.int (16 : Int32))] [(.int (16 : Int32)), (.ref a1)])) _
    refine st3 _ ?_
    show Steps p.tables e below (T3.setTop (mkF m 14 #[.val (.ref a1), .val (.int (16 : Int32))] [(.ref b3), (.ref a1)])) _
    refine st4 _ ?_
    show Steps p.tables e below (T4.setTop (mkF m 17 #[.val (.ref a1), .val (.int (16 : Int32))] [])) _
    refine XS.aloadN X4.here hx rfl (hb hby d8_17) rfl rfl ?_
    show Steps p.tables e below (T4.setTop (mkF m 18 #[.val (.ref a1), .val (.int (16 : Int32))] [(.ref a1)])) _
    refine XS.iconst X4.here hx rfl (hb hby d8_18) ?_
    show Steps p.tables e below (T4.setTop (mkF m 19 #[.val (.ref a1), .val (.int (16 : Int32))] [(.int (0 : Int32)), (.ref a1)])) _
    refine st5 _ ?_
    show Steps p.tables e below (T5.setTop (mkF m 22 #[.val (.ref a1), .val (.int (16 : Int32))] [])) _
    refine XS.goto X5.here hx rfl (pc0 := 22) (pc' := 38) rfl (hb hby d8_22) (by decide) (by decide) ?_
    show Steps p.tables e below (T5.setTop (mkF m 38 #[.val (.ref a1), .val (.int (16 : Int32))] [])) _
    exact X5.returnOut hx Bd.returns (hb hby d8_38) hr
  · show QW (fun v h => v = none ∧ Keep h0 h [a1] ∧ Exa Z h a1 "java/lang/StringBuilder") n0 _ T5.heap _
    rw [e5]
    exact ⟨N5, ⟨rfl, K5, f5_0⟩⟩
theorem d7_0 : decode jdk_67_method_1_code 0 = .ok (.aload_n 0, 1) := by decide +kernel
theorem d7_1 : decode jdk_67_method_1_code 1 = .ok (.bipush 16, 2) := by decide +kernel
theorem d7_3 : decode jdk_67_method_1_code 3 = .ok (.invokespecial 1, 3) := by decide +kernel
theorem d7_6 : decode jdk_67_method_1_code 6 = .ok (.return_, 1) := by decide +kernel
theorem ef_7_4 (m : MethodId) (x0 : Addr) : entryFrame m #[(.ref x0)] 1 = mkF m 0 #[.val (.ref x0)] [] := by first | (simp [entryFrame, mkF, argsToLocals, Value.category]; done) | rfl
theorem pn_7 : plainName "java/lang/StringBuilder" = true := by first | (simp [plainName, overriddenIn]; done) | decide +kernel
set_option maxRecDepth 65536 in
set_option maxHeartbeats 40000000 in
theorem rm_sb (l : Launch) (Z : State) (a0 : Array Value) (hw : ∀ d ∈ tables_1, d.before a0 Z = true) (ws : List Jvm.Cond) {w_n2 : Addr} {w_n3 : Addr} {w_n4 : Addr} {w_n1 : Addr} {v_n0 : Int32} (W : Wd Z w_n2 w_n3 w_n4 w_n1 v_n0) (a1 : Addr) (h0 : Heap) (n0 : Nat) (O0 : Old Z n0 h0) (g_a1 : n0 ≤ a1) (hf0 : Exa Z h0 a1 "java/lang/StringBuilder") (hf1 : Fld Z h0 a1 "java/lang/AbstractStringBuilder" "value" "[B" .null) (hf2 : Fld Z h0 a1 "java/lang/AbstractStringBuilder" "coder" "B" (.int (0 : Int32))) :
    MetFree l (⟨"java/lang/StringBuilder", "<init>", "()V"⟩ : MethodName) (head1 (Jvm.Cond.code (⟨"java/lang/StringBuilder", "<init>", "()V"⟩ : MethodName) jdk_67_method_1_code 1 none :: ws) ({ frames := 2, cells := 1, slots := 16, locals := 25 } : Room)) (fun a U => a = #[(.ref a1)] ∧ Z.Warmed39 U.vm ∧ U.heap = h0) (fun _ _ _ _ _ => True) (fun _ U o U' => ∃ v L, o = .returned v ∧ QW (fun v h => v = none ∧ Keep h0 h [a1] ∧ Exa Z h a1 "java/lang/StringBuilder") n0 v U'.heap L ∧ FrameEnd U o U' L ({ frames := 2, cells := 1, slots := 16, locals := 25 } : Room).cells ({ frames := 2, cells := 1, slots := 16, locals := 25 } : Room).slots) := by
  have W' := W; obtain ⟨S_n2, E_n2, S_n3, E_n3, S_n4, E_n4, S_n1, E_n1, S_n0, N_n0, F_n2_ordinal, F_n3_ordinal⟩ := W'
  refine MetFree.of_bodySF (plainFor_of_name pn_7) hisR ?_
  intro p e s m args below meth c s₁ Bd hml0 hP hK
  obtain ⟨rfl, hZ, hh⟩ := hP
  have hx := Bd.exec
  have hby := Bd.bytes
  have hml : c.maxLocals = 1 := hml0
  have hown : s.vm.findClass "java/lang/StringBuilder" = some m.cls := findClass_of_methodNamed Bd.named
  have hnm := (name_of_methodNamed Bd.named Bd.method).1
  have X0 : Stand p l e ({ frames := 2, cells := 1, slots := 16, locals := 25 } : Room) s m #[(.ref a1)] below meth c s₁ [] 0 0 := Stand.of_body Bd
  have e0 : s₁.heap = h0 := by rw [← hh, Bd.state]; rfl
  have N0 := Fr.nil n0
  have pre0 : ∀ t, Steps p.tables e below (s₁.setTop (mkF m 0 #[.val (.ref a1)] [])) t → Steps p.tables e below (s₁.setTop (entryFrame m #[(.ref a1)] 1)) t := fun t k => castTop (ef_7_4 m a1) k
  obtain ⟨_, _, ⟨T1, L1, k1, n1⟩, -, X1, ⟨Lc1, hQ1, l1, y1, z1⟩, st1⟩ := X0.specialBack hx (y := (⟨"java/lang/AbstractStringBuilder", "<init>", "(I)V"⟩ : MethodName)) rfl hown (mvT hZ (hw _ (List.mem_of_getElem? (i := 46) rfl))) (mvT hZ (hw _ (List.mem_of_getElem? (i := 47) rfl))) (mvT hZ (hw _ (List.mem_of_getElem? (i := 51) rfl))) (by decide) (backOf (W := 0) (rm_asb l Z a0 hw [] W a1 h0 n0 O0 g_a1 hf0 hf1 hf2) hZ (hw _ (List.mem_of_getElem? (i := 51) rfl)) (hw _ (List.mem_of_getElem? (i := 50) rfl)) (by decide) (by decide)) (g := (mkF m 3 #[.val (.ref a1)] [(.int (16 : Int32)), (.ref a1)])) rfl (by rw [hml]; rfl) (Steps.refl _) (a := a1) (argsL := [(.int (16 : Int32))]) (rest := []) (lenOf pd_1 rfl) rfl (by show 2 * 0 + _ ≤ _; exact Nat.le_of_eq rfl) (hb hby d7_3) (fun _ _ => ⟨rfl, e0, (by decide : 0 + 1 ≤ _), (by decide : 0 + 16 ≤ _)⟩)
  dsimp only [Pt.U, Pt.locs, Pt.cells, Pt.slots] at X1 l1 y1 z1 st1 hQ1
  subst l1 y1 z1
  obtain ⟨N1q, hP1⟩ := hQ1
  have N1 := Fr.app N0 N1q
  obtain ⟨rfl, Kp1, fp1_0⟩ := hP1
  have f1_0 : Exa Z T1.heap a1 "java/lang/StringBuilder" := (hf0).keep Kp1
  have O1 := O0.keep Kp1 (allS g_a1 all0)
  have K1 : Keep h0 T1.heap [a1] := (Keep.refl h0 [a1]).trans Kp1 (allS (Or.inl (List.mem_of_getElem? (i := 0) rfl)) all0)
  obtain ⟨fs, hr, hrun, hended, hW, hsame⟩ := X1.leave (v := none) (fun _ => rfl)
  refine ⟨_, _, pre0 _ ?_, hrun, hended, _, _, rfl, ?_, ⟨_, rfl⟩, hW, hsame.mono (by decide) (by decide)⟩
  · show Steps p.tables e below (s₁.setTop (mkF m 0 #[.val (.ref a1)] [])) _
    refine XS.aloadN X0.here hx rfl (hb hby d7_0) rfl rfl ?_
    show Steps p.tables e below (s₁.setTop (mkF m 1 #[.val (.ref a1)] [(.ref a1)])) _
    refine XS.bipush X0.here hx rfl (hb hby d7_1) ?_
    show Steps p.tables e below (s₁.setTop (mkF m 3 #[.val (.ref a1)] [(.int (16 : Int32)), (.ref a1)])) _
    refine st1.trans ?_
    show Steps p.tables e below (T1.setTop (mkF m 6 #[.val (.ref a1)] [])) _
    exact X1.returnOut hx Bd.returns (hb hby d7_6) hr
  · show QW (fun v h => v = none ∧ Keep h0 h [a1] ∧ Exa Z h a1 "java/lang/StringBuilder") n0 _ T1.heap _
    exact ⟨N1, ⟨rfl, K1, fp1_0⟩⟩
theorem d6_0 : decode prog_27_method_1_code 0 = .ok (.aload_n 0, 1) := by decide +kernel
theorem d6_1 : decode prog_27_method_1_code 1 = .ok (.invokespecial 1, 3) := by decide +kernel
theorem d6_4 : decode prog_27_method_1_code 4 = .ok (.aload_n 0, 1) := by decide +kernel
theorem d6_5 : decode prog_27_method_1_code 5 = .ok (.new 7, 3) := by decide +kernel
theorem d6_8 : decode prog_27_method_1_code 8 = .ok (.dup, 1) := by decide +kernel
theorem d6_9 : decode prog_27_method_1_code 9 = .ok (.invokespecial 9, 3) := by decide +kernel
theorem d6_12 : decode prog_27_method_1_code 12 = .ok (.putfield 10, 3) := by decide +kernel
theorem d6_15 : decode prog_27_method_1_code 15 = .ok (.return_, 1) := by decide +kernel
theorem ef_6_5 (m : MethodId) (x0 : Addr) : entryFrame m #[(.ref x0)] 1 = mkF m 0 #[.val (.ref x0)] [] := by first | (simp [entryFrame, mkF, argsToLocals, Value.category]; done) | rfl
theorem pn_6 : plainName "com/example/tillwire/tillwire/HttpFraming$Line" = true := by first | (simp [plainName, overriddenIn]; done) | decide +kernel
set_option maxRecDepth 65536 in
set_option maxHeartbeats 40000000 in
theorem rm_ln (l : Launch) (Z : State) (a0 : Array Value) (hw : ∀ d ∈ tables_1, d.before a0 Z = true) (ws : List Jvm.Cond) {w_n2 : Addr} {w_n3 : Addr} {w_n4 : Addr} {w_n1 : Addr} {v_n0 : Int32} (W : Wd Z w_n2 w_n3 w_n4 w_n1 v_n0) (a1 : Addr) (h0 : Heap) (n0 : Nat) (O0 : Old Z n0 h0) (g_a1 : n0 ≤ a1) (hf0 : Exa Z h0 a1 "com/example/tillwire/tillwire/HttpFraming$Line") (hf1 : Fld Z h0 a1 "com/example/tillwire/tillwire/HttpFraming$Line" "text" "Ljava/lang/StringBuilder;" .null) :
    MetFree l (⟨"com/example/tillwire/tillwire/HttpFraming$Line", "<init>", "()V"⟩ : MethodName) (head1 (Jvm.Cond.code (⟨"com/example/tillwire/tillwire/HttpFraming$Line", "<init>", "()V"⟩ : MethodName) prog_27_method_1_code 1 none :: ws) ({ frames := 3, cells := 2, slots := 20, locals := 39 } : Room)) (fun a U => a = #[(.ref a1)] ∧ Z.Warmed39 U.vm ∧ U.heap = h0) (fun _ _ _ _ _ => True) (fun _ U o U' => ∃ v L, o = .returned v ∧ QW (fun v h => v = none ∧ Keep h0 h [a1] ∧ Exa Z h a1 "com/example/tillwire/tillwire/HttpFraming$Line") n0 v U'.heap L ∧ FrameEnd U o U' L ({ frames := 3, cells := 2, slots := 20, locals := 39 } : Room).cells ({ frames := 3, cells := 2, slots := 20, locals := 39 } : Room).slots) := by
  have W' := W; obtain ⟨S_n2, E_n2, S_n3, E_n3, S_n4, E_n4, S_n1, E_n1, S_n0, N_n0, F_n2_ordinal, F_n3_ordinal⟩ := W'
  refine MetFree.of_bodySF (plainFor_of_name pn_6) hisR ?_
  intro p e s m args below meth c s₁ Bd hml0 hP hK
  obtain ⟨rfl, hZ, hh⟩ := hP
  have hx := Bd.exec
  have hby := Bd.bytes
  have hml : c.maxLocals = 1 := hml0
  have hown : s.vm.findClass "com/example/tillwire/tillwire/HttpFraming$Line" = some m.cls := findClass_of_methodNamed Bd.named
  have hnm := (name_of_methodNamed Bd.named Bd.method).1
  have X0 : Stand p l e ({ frames := 3, cells := 2, slots := 20, locals := 39 } : Room) s m #[(.ref a1)] below meth c s₁ [] 0 0 := Stand.of_body Bd
  have e0 : s₁.heap = h0 := by rw [← hh, Bd.state]; rfl
  have N0 := Fr.nil n0
  have pre0 : ∀ t, Steps p.tables e below (s₁.setTop (mkF m 0 #[.val (.ref a1)] [])) t → Steps p.tables e below (s₁.setTop (entryFrame m #[(.ref a1)] 1)) t := fun t k => castTop (ef_6_5 m a1) k
  obtain ⟨T1, X1, e1, st1⟩ := initO X0 hx hZ hown (hw _ (List.mem_of_getElem? (i := 39) rfl)) (hw _ (List.mem_of_getElem? (i := 9) rfl)) (hw _ (List.mem_of_getElem? (i := 10) rfl)) e0 (g := (mkF m 1 #[.val (.ref a1)] [(.ref a1)])) rfl (by rw [hml]; rfl) rfl (hb hby d6_1) (by decide) (W := 0) (by show 2 * 0 + _ ≤ _; exact Nat.le_of_eq rfl) (by decide)
  obtain ⟨T2, h2, X2, e2, E2, A2, D2, U2, st2⟩ := newO X1 hx hZ hown (hw _ (List.mem_of_getElem? (i := 40) rfl)) (hw _ (List.mem_of_getElem? (i := 41) rfl)) (hw _ (List.mem_of_getElem? (i := 42) rfl)) e1 (g := (mkF m 5 #[.val (.ref a1)] [(.ref a1)])) rfl (hb hby d6_5) (by decide) (by decide)
  obtain ⟨b2, g2⟩ : ∃ z, z = h0.size := ⟨_, rfl⟩
  rw [← g2] at A2 D2 U2 st2
  have lt_a1_b2 : a1 < h0.size := (hf0).lt
  have g_b2 : n0 ≤ b2 := by rw [g2]; exact O0.1 ▸ O0.2.1
  have sz_b2 : h0.size ≤ b2 := by rw [g2]; exact (Keep.refl h0 [a1]).1
  have f2_0 : Exa Z h2 a1 "com/example/tillwire/tillwire/HttpFraming$Line" := (hf0).ext E2
  have f2_1 : Fld Z h2 a1 "com/example/tillwire/tillwire/HttpFraming$Line" "text" "Ljava/lang/StringBuilder;" .null := (hf1).ext E2
  have O2 := O0.ext E2
  have K2 : Keep h0 h2 [a1] := (Keep.refl h0 [a1]).ext E2
  have f2_value : Fld Z h2 b2 "java/lang/AbstractStringBuilder" "value" "[B" .null := D2 (Or.inl (hw _ (List.mem_of_getElem? (i := 56) rfl))) (ty := (.array .byte)) (by decide)
  have f2_coder : Fld Z h2 b2 "java/lang/AbstractStringBuilder" "coder" "B" (.int (0 : Int32)) := D2 (Or.inl (hw _ (List.mem_of_getElem? (i := 58) rfl))) (ty := .byte) (by decide)
  obtain ⟨_, _, ⟨T3, L3, k3, n3⟩, -, X3, ⟨Lc3, hQ3, l3, y3, z3⟩, st3⟩ := X2.specialBack hx (y := (⟨"java/lang/StringBuilder", "<init>", "()V"⟩ : MethodName)) rfl hown (mvT hZ (hw _ (List.mem_of_getElem? (i := 43) rfl))) (mvT hZ (hw _ (List.mem_of_getElem? (i := 44) rfl))) (mvT hZ (hw _ (List.mem_of_getElem? (i := 45) rfl))) (by decide) (backOf (W := 2) (rm_sb l Z a0 hw [] W b2 h2 n0 O2 g_b2 A2 f2_value f2_coder) hZ (hw _ (List.mem_of_getElem? (i := 45) rfl)) (hw _ (List.mem_of_getElem? (i := 42) rfl)) (by decide) (by decide)) (g := (mkF m 9 #[.val (.ref a1)] [(.ref b2), (.ref b2), (.ref a1)])) rfl (by rw [hml]; rfl) (Steps.refl _) (a := b2) (argsL := []) (rest := [(.ref b2), (.ref a1)]) (lenOf pd_0 rfl) rfl (by show 2 * 0 + _ ≤ _; exact Nat.le_of_eq rfl) (hb hby d6_9) (fun _ _ => ⟨rfl, e2, (by decide : 1 + 1 ≤ _), (by decide : 4 + 16 ≤ _)⟩)
  dsimp only [Pt.U, Pt.locs, Pt.cells, Pt.slots] at X3 l3 y3 z3 st3 hQ3
  subst l3 y3 z3
  obtain ⟨N3q, hP3⟩ := hQ3
  have N3 := Fr.app N0 N3q
  obtain ⟨rfl, Kp3, fp3_0⟩ := hP3
  have f3_0 : Exa Z T3.heap a1 "com/example/tillwire/tillwire/HttpFraming$Line" := (f2_0).keep Kp3
  have f3_1 : Fld Z T3.heap a1 "com/example/tillwire/tillwire/HttpFraming$Line" "text" "Ljava/lang/StringBuilder;" .null := (f2_1).keep Kp3 (ninS (ne_exa f2_0 A2 (by decide)) nin0)
  have f3_2 : Exa Z T3.heap b2 "java/lang/StringBuilder" := (A2).keep Kp3
  have O3 := O2.keep Kp3 (allS g_b2 all0)
  have K3 : Keep h0 T3.heap [a1] := K2.trans Kp3 (allS (Or.inr sz_b2) all0)
  obtain ⟨T4, h4, X4, e4, W4, st4⟩ := putF X3 hx hZ hown (host := "") (Or.inl (hw _ (List.mem_of_getElem? (i := 59) rfl))) Via.refl rfl f3_1 f3_0 (Or.inr ⟨(hw _ (List.mem_of_getElem? (i := 60) rfl)), rfl, hnm⟩) (hw _ (List.mem_of_getElem? (i := 34) rfl)) (ty := (.object "java/lang/StringBuilder")) (by decide) rfl rfl (g := (mkF m 12 #[.val (.ref a1)] [(.ref b2), (.ref a1)])) rfl rfl (hb hby d6_12)
  have fw4 : Fld Z h4 a1 "com/example/tillwire/tillwire/HttpFraming$Line" "text" "Ljava/lang/StringBuilder;" (.ref b2) := (f3_1).same W4
  have f4_0 : Exa Z h4 a1 "com/example/tillwire/tillwire/HttpFraming$Line" := (f3_0).wr W4
  have f4_1 : Exa Z h4 b2 "java/lang/StringBuilder" := (fp3_0).wr W4
  have O4 := O3.wr W4 g_a1
  have N4 := Fr.snoc X4 N3 g_a1
  have K4 : Keep h0 h4 [a1] := K3.wr W4 (Or.inl (List.mem_of_getElem? (i := 0) rfl))
  obtain ⟨fs, hr, hrun, hended, hW, hsame⟩ := X4.leave (v := none) (fun _ => rfl)
  refine ⟨_, _, pre0 _ ?_, hrun, hended, _, _, rfl, ?_, ⟨_, rfl⟩, hW, hsame.mono (by decide) (by decide)⟩
  · show Steps p.tables e below (s₁.setTop (mkF m 0 #[.val (.ref a1)] [])) _
    refine XS.aloadN X0.here hx rfl (hb hby d6_0) rfl rfl ?_
    show Steps p.tables e below (s₁.setTop (mkF m 1 #[.val (.ref a1)] [(.ref a1)])) _
    refine st1 _ ?_
    show Steps p.tables e below (T1.setTop (mkF m 4 #[.val (.ref a1)] [])) _
    refine XS.aloadN X1.here hx rfl (hb hby d6_4) rfl rfl ?_
    show Steps p.tables e below (T1.setTop (mkF m 5 #[.val (.ref a1)] [(.ref a1)])) _
    refine st2 _ ?_
    show Steps p.tables e below (T2.setTop (mkF m 8 #[.val (.ref a1)] [(.ref b2), (.ref a1)])) _
    refine XS.dup X2.here hx rfl (hb hby d6_8) rfl rfl ?_
    show Steps p.tables e below (T2.setTop (mkF m 9 #[.val (.ref a1)] [(.ref b2), (.ref b2), (.ref a1)])) _
    refine st3.trans ?_
    show Steps p.tables e below (T3.setTop (mkF m 12 #[.val (.ref a1)] [(.ref b2), (.ref a1)])) _
    refine st4 _ ?_
    show Steps p.tables e below (T4.setTop (mkF m 15 #[.val (.ref a1)] [])) _
    exact X4.returnOut hx Bd.returns (hb hby d6_15) hr
  · show QW (fun v h => v = none ∧ Keep h0 h [a1] ∧ Exa Z h a1 "com/example/tillwire/tillwire/HttpFraming$Line") n0 _ T4.heap _
    rw [e4]
    exact ⟨N4, ⟨rfl, K4, f4_0⟩⟩
theorem d15_0 : decode jdk_29_method_70_code 0 = .ok (.lload_n 0, 1) := by decide +kernel
theorem d15_1 : decode jdk_29_method_70_code 1 = .ok (.lload_n 2, 1) := by decide +kernel
theorem d15_2 : decode jdk_29_method_70_code 2 = .ok (.lcmp, 1) := by decide +kernel
theorem d15_3 : decode jdk_29_method_70_code 3 = .ok (.ifCond .gt 7, 3) := by decide +kernel
theorem d15_6 : decode jdk_29_method_70_code 6 = .ok (.lload_n 0, 1) := by decide +kernel
theorem d15_7 : decode jdk_29_method_70_code 7 = .ok (.goto 4, 3) := by decide +kernel
theorem d15_11 : decode jdk_29_method_70_code 11 = .ok (.lreturn, 1) := by decide +kernel
theorem ef_15_6 (m : MethodId) (x0 : Int64) (x1 : Int64) : entryFrame m #[(.long x0), (.long x1)] 4 = mkF m 0 #[.val (.long x0), .second, .val (.long x1), .second] [] := by first | (simp [entryFrame, mkF, argsToLocals, Value.category]; done) | rfl
set_option maxRecDepth 65536 in
set_option maxHeartbeats 40000000 in
theorem rm_min1 (l : Launch) (Z : State) (a0 : Array Value) (hw : ∀ d ∈ tables_1, d.before a0 Z = true) (ws : List Jvm.Cond) {w_n2 : Addr} {w_n3 : Addr} {w_n4 : Addr} {w_n1 : Addr} {v_n0 : Int32} (W : Wd Z w_n2 w_n3 w_n4 w_n1 v_n0) (q2 : Int64) (h0 : Heap) (n0 : Nat) (O0 : Old Z n0 h0) (xm : ¬ ((0 : Int32) < (lcmpW (0 : Int64) q2))) :
    MetFree l (⟨"java/lang/Math", "min", "(JJ)J"⟩ : MethodName) (head1 (Jvm.Cond.code (⟨"java/lang/Math", "min", "(JJ)J"⟩ : MethodName) jdk_29_method_70_code 4 (some .long) :: ws) ({ frames := 0, cells := 0, slots := 0, locals := 0 } : Room)) (fun a U => a = #[(.long (0 : Int64)), (.long q2)] ∧ Z.Warmed39 U.vm ∧ U.heap = h0) (fun _ _ _ _ _ => True) (fun _ U o U' => ∃ v L, o = .returned v ∧ QP (some (.long (0 : Int64))) h0 n0 v U'.heap L ∧ FrameEnd U o U' L ({ frames := 0, cells := 0, slots := 0, locals := 0 } : Room).cells ({ frames := 0, cells := 0, slots := 0, locals := 0 } : Room).slots) := by
  have W' := W; obtain ⟨S_n2, E_n2, S_n3, E_n3, S_n4, E_n4, S_n1, E_n1, S_n0, N_n0, F_n2_ordinal, F_n3_ordinal⟩ := W'
  refine MetFree.of_bodySF (Jvm.Free.JP.mathPlain rfl (by decide +kernel)) hisR ?_
  intro p e s m args below meth c s₁ Bd hml0 hP hK
  obtain ⟨rfl, hZ, hh⟩ := hP
  have hx := Bd.exec
  have hby := Bd.bytes
  have hml : c.maxLocals = 4 := hml0
  have hown : s.vm.findClass "java/lang/Math" = some m.cls := findClass_of_methodNamed Bd.named
  have hnm := (name_of_methodNamed Bd.named Bd.method).1
  have X0 : Stand p l e ({ frames := 0, cells := 0, slots := 0, locals := 0 } : Room) s m #[(.long (0 : Int64)), (.long q2)] below meth c s₁ [] 0 0 := Stand.of_body Bd
  have e0 : s₁.heap = h0 := by rw [← hh, Bd.state]; rfl
  have N0 := Fr.nil n0
  have pre0 : ∀ t, Steps p.tables e below (s₁.setTop (mkF m 0 #[.val (.long (0 : Int64)), .second, .val (.long q2), .second] [])) t → Steps p.tables e below (s₁.setTop (entryFrame m #[(.long (0 : Int64)), (.long q2)] 4)) t := fun t k => castTop (ef_15_6 m (0 : Int64) q2) k
  obtain ⟨fs, hr, hrun, hended, hW, hsame⟩ := X0.leave (v := some (.long (0 : Int64))) (fun h => by rw [Bd.returns] at h; cases h)
  refine ⟨_, _, pre0 _ ?_, hrun, hended, _, _, rfl, ?_, ⟨_, rfl⟩, hW, hsame.mono (by decide) (by decide)⟩
  · show Steps p.tables e below (s₁.setTop (mkF m 0 #[.val (.long (0 : Int64)), .second, .val (.long q2), .second] [])) _
    refine XS.lloadN X0.here hx rfl (hb hby d15_0) rfl ?_
    show Steps p.tables e below (s₁.setTop (mkF m 1 #[.val (.long (0 : Int64)), .second, .val (.long q2), .second] [(.long (0 : Int64))])) _
    refine XS.lloadN X0.here hx rfl (hb hby d15_1) rfl ?_
    show Steps p.tables e below (s₁.setTop (mkF m 2 #[.val (.long (0 : Int64)), .second, .val (.long q2), .second] [(.long q2), (.long (0 : Int64))])) _
    refine XS.lcmp X0.here hx rfl (hb hby d15_2) rfl ?_
    show Steps p.tables e below (s₁.setTop (mkF m 3 #[.val (.long (0 : Int64)), .second, .val (.long q2), .second] [(.int (lcmpW (0 : Int64) q2))])) _
    refine XS.ifNo X0.here hx rfl (hb hby d15_3) rfl ((if0 _ _).trans (flt (xm : ¬ ((0 : Int32) < (lcmpW (0 : Int64) q2)))).2.2.1) ?_
    show Steps p.tables e below (s₁.setTop (mkF m 6 #[.val (.long (0 : Int64)), .second, .val (.long q2), .second] [])) _
    refine XS.lloadN X0.here hx rfl (hb hby d15_6) rfl ?_
    show Steps p.tables e below (s₁.setTop (mkF m 7 #[.val (.long (0 : Int64)), .second, .val (.long q2), .second] [(.long (0 : Int64))])) _
    refine XS.goto X0.here hx rfl (pc0 := 7) (pc' := 11) rfl (hb hby d15_7) (by decide) (by decide) ?_
    show Steps p.tables e below (s₁.setTop (mkF m 11 #[.val (.long (0 : Int64)), .second, .val (.long q2), .second] [(.long (0 : Int64))])) _
    jvm_step X0.here [X0.here.top, hx, (hb hby d15_11), X0.method', Bd.returns, narrow]
    first | (intro acts; rw [hr _ acts rfl rfl rfl]) | rw [hr _ _ rfl rfl rfl]
    exact Steps.refl _
  · show QP (some (.long (0 : Int64))) h0 n0 _ s₁.heap _
    rw [e0]
    exact ⟨rfl, N0, rfl⟩
theorem d15_10 : decode jdk_29_method_70_code 10 = .ok (.lload_n 2, 1) := by decide +kernel
set_option maxRecDepth 65536 in
set_option maxHeartbeats 40000000 in
theorem rm_min2 (l : Launch) (Z : State) (a0 : Array Value) (hw : ∀ d ∈ tables_1, d.before a0 Z = true) (ws : List Jvm.Cond) {w_n2 : Addr} {w_n3 : Addr} {w_n4 : Addr} {w_n1 : Addr} {v_n0 : Int32} (W : Wd Z w_n2 w_n3 w_n4 w_n1 v_n0) (q1 : Int64) (h0 : Heap) (n0 : Nat) (O0 : Old Z n0 h0) (xm : (0 : Int32) < (lcmpW q1 (0 : Int64))) :
    MetFree l (⟨"java/lang/Math", "min", "(JJ)J"⟩ : MethodName) (head1 (Jvm.Cond.code (⟨"java/lang/Math", "min", "(JJ)J"⟩ : MethodName) jdk_29_method_70_code 4 (some .long) :: ws) ({ frames := 0, cells := 0, slots := 0, locals := 0 } : Room)) (fun a U => a = #[(.long q1), (.long (0 : Int64))] ∧ Z.Warmed39 U.vm ∧ U.heap = h0) (fun _ _ _ _ _ => True) (fun _ U o U' => ∃ v L, o = .returned v ∧ QP (some (.long (0 : Int64))) h0 n0 v U'.heap L ∧ FrameEnd U o U' L ({ frames := 0, cells := 0, slots := 0, locals := 0 } : Room).cells ({ frames := 0, cells := 0, slots := 0, locals := 0 } : Room).slots) := by
  have W' := W; obtain ⟨S_n2, E_n2, S_n3, E_n3, S_n4, E_n4, S_n1, E_n1, S_n0, N_n0, F_n2_ordinal, F_n3_ordinal⟩ := W'
  refine MetFree.of_bodySF (Jvm.Free.JP.mathPlain rfl (by decide +kernel)) hisR ?_
  intro p e s m args below meth c s₁ Bd hml0 hP hK
  obtain ⟨rfl, hZ, hh⟩ := hP
  have hx := Bd.exec
  have hby := Bd.bytes
  have hml : c.maxLocals = 4 := hml0
  have hown : s.vm.findClass "java/lang/Math" = some m.cls := findClass_of_methodNamed Bd.named
  have hnm := (name_of_methodNamed Bd.named Bd.method).1
  have X0 : Stand p l e ({ frames := 0, cells := 0, slots := 0, locals := 0 } : Room) s m #[(.long q1), (.long (0 : Int64))] below meth c s₁ [] 0 0 := Stand.of_body Bd
  have e0 : s₁.heap = h0 := by rw [← hh, Bd.state]; rfl
  have N0 := Fr.nil n0
  have pre0 : ∀ t, Steps p.tables e below (s₁.setTop (mkF m 0 #[.val (.long q1), .second, .val (.long (0 : Int64)), .second] [])) t → Steps p.tables e below (s₁.setTop (entryFrame m #[(.long q1), (.long (0 : Int64))] 4)) t := fun t k => castTop (ef_15_6 m q1 (0 : Int64)) k
  obtain ⟨fs, hr, hrun, hended, hW, hsame⟩ := X0.leave (v := some (.long (0 : Int64))) (fun h => by rw [Bd.returns] at h; cases h)
  refine ⟨_, _, pre0 _ ?_, hrun, hended, _, _, rfl, ?_, ⟨_, rfl⟩, hW, hsame.mono (by decide) (by decide)⟩
  · show Steps p.tables e below (s₁.setTop (mkF m 0 #[.val (.long q1), .second, .val (.long (0 : Int64)), .second] [])) _
    refine XS.lloadN X0.here hx rfl (hb hby d15_0) rfl ?_
    show Steps p.tables e below (s₁.setTop (mkF m 1 #[.val (.long q1), .second, .val (.long (0 : Int64)), .second] [(.long q1)])) _
    refine XS.lloadN X0.here hx rfl (hb hby d15_1) rfl ?_
    show Steps p.tables e below (s₁.setTop (mkF m 2 #[.val (.long q1), .second, .val (.long (0 : Int64)), .second] [(.long (0 : Int64)), (.long q1)])) _
    refine XS.lcmp X0.here hx rfl (hb hby d15_2) rfl ?_
    show Steps p.tables e below (s₁.setTop (mkF m 3 #[.val (.long q1), .second, .val (.long (0 : Int64)), .second] [(.int (lcmpW q1 (0 : Int64)))])) _
    refine XS.ifYes X0.here hx rfl (pc0 := 3) (pc' := 10) rfl (hb hby d15_3) rfl ((if0 _ _).trans (tlt (xm : (0 : Int32) < (lcmpW q1 (0 : Int64)))).2.2.1) (by decide) (by decide) ?_
    show Steps p.tables e below (s₁.setTop (mkF m 10 #[.val (.long q1), .second, .val (.long (0 : Int64)), .second] [])) _
    refine XS.lloadN X0.here hx rfl (hb hby d15_10) rfl ?_
    show Steps p.tables e below (s₁.setTop (mkF m 11 #[.val (.long q1), .second, .val (.long (0 : Int64)), .second] [(.long (0 : Int64))])) _
    jvm_step X0.here [X0.here.top, hx, (hb hby d15_11), X0.method', Bd.returns, narrow]
    first | (intro acts; rw [hr _ acts rfl rfl rfl]) | rw [hr _ _ rfl rfl rfl]
    exact Steps.refl _
  · show QP (some (.long (0 : Int64))) h0 n0 _ s₁.heap _
    rw [e0]
    exact ⟨rfl, N0, rfl⟩
theorem d14_0 : decode jdk_29_method_69_code 0 = .ok (.iload_n 0, 1) := by decide +kernel
theorem d14_1 : decode jdk_29_method_69_code 1 = .ok (.iload_n 1, 1) := by decide +kernel
theorem d14_2 : decode jdk_29_method_69_code 2 = .ok (.if_icmp .gt 7, 3) := by decide +kernel
theorem d14_9 : decode jdk_29_method_69_code 9 = .ok (.iload_n 1, 1) := by decide +kernel
theorem d14_10 : decode jdk_29_method_69_code 10 = .ok (.ireturn, 1) := by decide +kernel
theorem ef_14_7 (m : MethodId) (x0 : Int32) (x1 : Int32) : entryFrame m #[(.int x0), (.int x1)] 2 = mkF m 0 #[.val (.int x0), .val (.int x1)] [] := by first | (simp [entryFrame, mkF, argsToLocals, Value.category]; done) | rfl
set_option maxRecDepth 65536 in
set_option maxHeartbeats 40000000 in
theorem rm_minI (l : Launch) (Z : State) (a0 : Array Value) (hw : ∀ d ∈ tables_1, d.before a0 Z = true) (ws : List Jvm.Cond) {w_n2 : Addr} {w_n3 : Addr} {w_n4 : Addr} {w_n1 : Addr} {v_n0 : Int32} (W : Wd Z w_n2 w_n3 w_n4 w_n1 v_n0) (h0 : Heap) (n0 : Nat) (O0 : Old Z n0 h0) :
    MetFree l (⟨"java/lang/Math", "min", "(II)I"⟩ : MethodName) (head1 (Jvm.Cond.code (⟨"java/lang/Math", "min", "(II)I"⟩ : MethodName) jdk_29_method_69_code 2 (some .int) :: ws) ({ frames := 0, cells := 0, slots := 0, locals := 0 } : Room)) (fun a U => a = #[(.int (32 : Int32)), (.int (0 : Int32))] ∧ Z.Warmed39 U.vm ∧ U.heap = h0) (fun _ _ _ _ _ => True) (fun _ U o U' => ∃ v L, o = .returned v ∧ QP (some (.int (0 : Int32))) h0 n0 v U'.heap L ∧ FrameEnd U o U' L ({ frames := 0, cells := 0, slots := 0, locals := 0 } : Room).cells ({ frames := 0, cells := 0, slots := 0, locals := 0 } : Room).slots) := by
  have W' := W; obtain ⟨S_n2, E_n2, S_n3, E_n3, S_n4, E_n4, S_n1, E_n1, S_n0, N_n0, F_n2_ordinal, F_n3_ordinal⟩ := W'
  refine MetFree.of_bodySF (Jvm.Free.JP.mathPlain rfl (by decide +kernel)) hisR ?_
  intro p e s m args below meth c s₁ Bd hml0 hP hK
  obtain ⟨rfl, hZ, hh⟩ := hP
  have hx := Bd.exec
  have hby := Bd.bytes
  have hml : c.maxLocals = 2 := hml0
  have hown : s.vm.findClass "java/lang/Math" = some m.cls := findClass_of_methodNamed Bd.named
  have hnm := (name_of_methodNamed Bd.named Bd.method).1
  have X0 : Stand p l e ({ frames := 0, cells := 0, slots := 0, locals := 0 } : Room) s m #[(.int (32 : Int32)), (.int (0 : Int32))] below meth c s₁ [] 0 0 := Stand.of_body Bd
  have e0 : s₁.heap = h0 := by rw [← hh, Bd.state]; rfl
  have N0 := Fr.nil n0
  have pre0 : ∀ t, Steps p.tables e below (s₁.setTop (mkF m 0 #[.val (.int (32 : Int32)), .val (.int (0 : Int32))] [])) t → Steps p.tables e below (s₁.setTop (entryFrame m #[(.int (32 : Int32)), (.int (0 : Int32))] 2)) t := fun t k => castTop (ef_14_7 m (32 : Int32) (0 : Int32)) k
  obtain ⟨fs, hr, hrun, hended, hW, hsame⟩ := X0.leave (v := some (.int (0 : Int32))) (fun h => by rw [Bd.returns] at h; cases h)
  refine ⟨_, _, pre0 _ ?_, hrun, hended, _, _, rfl, ?_, ⟨_, rfl⟩, hW, hsame.mono (by decide) (by decide)⟩
  · show Steps p.tables e below (s₁.setTop (mkF m 0 #[.val (.int (32 : Int32)), .val (.int (0 : Int32))] [])) _
    refine XS.iloadN X0.here hx rfl (hb hby d14_0) rfl ?_
    show Steps p.tables e below (s₁.setTop (mkF m 1 #[.val (.int (32 : Int32)), .val (.int (0 : Int32))] [(.int (32 : Int32))])) _
    refine XS.iloadN X0.here hx rfl (hb hby d14_1) rfl ?_
    show Steps p.tables e below (s₁.setTop (mkF m 2 #[.val (.int (32 : Int32)), .val (.int (0 : Int32))] [(.int (0 : Int32)), (.int (32 : Int32))])) _
    refine XS.icmpYes X0.here hx rfl (pc0 := 2) (pc' := 9) rfl (hb hby d14_2) rfl (tlt ((by decide) : (0 : Int32) < (32 : Int32))).2.2.1 (by decide) (by decide) ?_
    show Steps p.tables e below (s₁.setTop (mkF m 9 #[.val (.int (32 : Int32)), .val (.int (0 : Int32))] [])) _
    refine XS.iloadN X0.here hx rfl (hb hby d14_9) rfl ?_
    show Steps p.tables e below (s₁.setTop (mkF m 10 #[.val (.int (32 : Int32)), .val (.int (0 : Int32))] [(.int (0 : Int32))])) _
    exact retI X0 hx Bd.returns (hb hby d14_10) hr
  · show QP (some (.int (0 : Int32))) h0 n0 _ s₁.heap _
    rw [e0]
    exact ⟨rfl, N0, rfl⟩
theorem d17_0 : decode prog_23_method_10_code 0 = .ok (.aload_n 0, 1) := by decide +kernel
theorem d17_1 : decode prog_23_method_10_code 1 = .ok (.getfield 72, 3) := by decide +kernel
theorem d17_4 : decode prog_23_method_10_code 4 = .ok (.lconst 0, 1) := by decide +kernel
theorem d17_5 : decode prog_23_method_10_code 5 = .ok (.lcmp, 1) := by decide +kernel
theorem d17_6 : decode prog_23_method_10_code 6 = .ok (.ifCond .le 4, 3) := by decide +kernel
theorem d17_10 : decode prog_23_method_10_code 10 = .ok (.aload_n 0, 1) := by decide +kernel
theorem d17_11 : decode prog_23_method_10_code 11 = .ok (.getfield 31, 3) := by decide +kernel
theorem d17_14 : decode prog_23_method_10_code 14 = .ok (.ifCond .eq 16, 3) := by decide +kernel
theorem d17_30 : decode prog_23_method_10_code 30 = .ok (.aload_n 0, 1) := by decide +kernel
theorem d17_31 : decode prog_23_method_10_code 31 = .ok (.getstatic 78, 3) := by decide +kernel
theorem d17_34 : decode prog_23_method_10_code 34 = .ok (.putfield 57, 3) := by decide +kernel
theorem d17_37 : decode prog_23_method_10_code 37 = .ok (.return_, 1) := by decide +kernel
theorem ef_17_8 (m : MethodId) (x0 : Addr) : entryFrame m #[(.ref x0)] 1 = mkF m 0 #[.val (.ref x0)] [] := by first | (simp [entryFrame, mkF, argsToLocals, Value.category]; done) | rfl
theorem pn_17 : plainName "com/example/tillwire/tillwire/HttpFraming$BodyReader" = true := by first | (simp [plainName, overriddenIn]; done) | decide +kernel
set_option maxRecDepth 65536 in
set_option maxHeartbeats 40000000 in
theorem rm_es (l : Launch) (Z : State) (a0 : Array Value) (hw : ∀ d ∈ tables_1, d.before a0 Z = true) (ws : List Jvm.Cond) {w_n2 : Addr} {w_n3 : Addr} {w_n4 : Addr} {w_n1 : Addr} {v_n0 : Int32} (W : Wd Z w_n2 w_n3 w_n4 w_n1 v_n0) (a1 : Addr) (ak : Addr) (h0 : Heap) (n0 : Nat) (O0 : Old Z n0 h0) (g_a1 : n0 ≤ a1) (hf0 : Exa Z h0 a1 "com/example/tillwire/tillwire/HttpFraming$BodyReader") (hf1 : Fld Z h0 a1 "com/example/tillwire/tillwire/HttpFraming$BodyReader" "kept" "Ljava/io/ByteArrayOutputStream;" (.ref ak)) (hf2 : Fld Z h0 a1 "com/example/tillwire/tillwire/HttpFraming$BodyReader" "whole" "Z" (.int (1 : Int32))) (hf3 : Fld Z h0 a1 "com/example/tillwire/tillwire/HttpFraming$BodyReader" "chunked" "Z" (.int (0 : Int32))) (hf4 : Fld Z h0 a1 "com/example/tillwire/tillwire/HttpFraming$BodyReader" "part" "Lcom/example/tillwire/tillwire/HttpFraming$BodyReader$Part;" (.ref w_n1)) (hf5 : Fld Z h0 a1 "com/example/tillwire/tillwire/HttpFraming$BodyReader" "left" "J" (.long (0 : Int64))) :
    MetFree l (⟨"com/example/tillwire/tillwire/HttpFraming$BodyReader", "endSkipped", "()V"⟩ : MethodName) (head1 (Jvm.Cond.code (⟨"com/example/tillwire/tillwire/HttpFraming$BodyReader", "endSkipped", "()V"⟩ : MethodName) prog_23_method_10_code 1 none :: ws) ({ frames := 0, cells := 0, slots := 0, locals := 0 } : Room)) (fun a U => a = #[(.ref a1)] ∧ Z.Warmed39 U.vm ∧ U.heap = h0) (fun _ _ _ _ _ => True) (fun _ U o U' => ∃ v L, o = .returned v ∧ QW (fun v h => v = none ∧ Keep h0 h [a1] ∧ Exa Z h a1 "com/example/tillwire/tillwire/HttpFraming$BodyReader" ∧ Fld Z h a1 "com/example/tillwire/tillwire/HttpFraming$BodyReader" "kept" "Ljava/io/ByteArrayOutputStream;" (.ref ak) ∧ Fld Z h a1 "com/example/tillwire/tillwire/HttpFraming$BodyReader" "whole" "Z" (.int (1 : Int32)) ∧ Fld Z h a1 "com/example/tillwire/tillwire/HttpFraming$BodyReader" "chunked" "Z" (.int (0 : Int32)) ∧ Fld Z h a1 "com/example/tillwire/tillwire/HttpFraming$BodyReader" "part" "Lcom/example/tillwire/tillwire/HttpFraming$BodyReader$Part;" (.ref w_n3)) n0 v U'.heap L ∧ FrameEnd U o U' L ({ frames := 0, cells := 0, slots := 0, locals := 0 } : Room).cells ({ frames := 0, cells := 0, slots := 0, locals := 0 } : Room).slots) := by
  have W' := W; obtain ⟨S_n2, E_n2, S_n3, E_n3, S_n4, E_n4, S_n1, E_n1, S_n0, N_n0, F_n2_ordinal, F_n3_ordinal⟩ := W'
  refine MetFree.of_bodySF (plainFor_of_name pn_17) hisR ?_
  intro p e s m args below meth c s₁ Bd hml0 hP hK
  obtain ⟨rfl, hZ, hh⟩ := hP
  have hx := Bd.exec
  have hby := Bd.bytes
  have hml : c.maxLocals = 1 := hml0
  have hown : s.vm.findClass "com/example/tillwire/tillwire/HttpFraming$BodyReader" = some m.cls := findClass_of_methodNamed Bd.named
  have hnm := (name_of_methodNamed Bd.named Bd.method).1
  have X0 : Stand p l e ({ frames := 0, cells := 0, slots := 0, locals := 0 } : Room) s m #[(.ref a1)] below meth c s₁ [] 0 0 := Stand.of_body Bd
  have e0 : s₁.heap = h0 := by rw [← hh, Bd.state]; rfl
  have N0 := Fr.nil n0
  have pre0 : ∀ t, Steps p.tables e below (s₁.setTop (mkF m 0 #[.val (.ref a1)] [])) t → Steps p.tables e below (s₁.setTop (entryFrame m #[(.ref a1)] 1)) t := fun t k => castTop (ef_17_8 m a1) k
  obtain ⟨T1, X1, e1, st1⟩ := getF X0 hx hZ hown (host := "") (Or.inl (hw _ (List.mem_of_getElem? (i := 126) rfl))) Via.refl e0 hf5 (g := (mkF m 1 #[.val (.ref a1)] [(.ref a1)])) rfl rfl (hb hby d17_1)
  obtain ⟨T2, X2, e2, st2⟩ := getF X1 hx hZ hown (host := "") (Or.inl (hw _ (List.mem_of_getElem? (i := 66) rfl))) Via.refl e1 hf3 (g := (mkF m 11 #[.val (.ref a1)] [(.ref a1)])) rfl rfl (hb hby d17_11)
  obtain ⟨T3, X3, e3, st3⟩ := getS2 X2 hx hZ hown (host := "") (Or.inl (hw _ (List.mem_of_getElem? (i := 83) rfl))) Via.refl e2 (S_n3.ext O0.2) (g := (mkF m 31 #[.val (.ref a1)] [(.ref a1)])) rfl (hb hby d17_31)
  obtain ⟨T4, h4, X4, e4, W4, st4⟩ := putF X3 hx hZ hown (host := "") (Or.inl (hw _ (List.mem_of_getElem? (i := 76) rfl))) Via.refl e3 hf4 hf0 (Or.inl (hw _ (List.mem_of_getElem? (i := 77) rfl))) (hw _ (List.mem_of_getElem? (i := 3) rfl)) (ty := (.object "com/example/tillwire/tillwire/HttpFraming$BodyReader$Part")) (by decide) rfl rfl (g := (mkF m 34 #[.val (.ref a1)] [(.ref w_n3), (.ref a1)])) rfl rfl (hb hby d17_34)
  have fw4 : Fld Z h4 a1 "com/example/tillwire/tillwire/HttpFraming$BodyReader" "part" "Lcom/example/tillwire/tillwire/HttpFraming$BodyReader$Part;" (.ref w_n3) := (hf4).same W4
  have f4_0 : Exa Z h4 a1 "com/example/tillwire/tillwire/HttpFraming$BodyReader" := (hf0).wr W4
  have f4_1 : Fld Z h4 a1 "com/example/tillwire/tillwire/HttpFraming$BodyReader" "kept" "Ljava/io/ByteArrayOutputStream;" (.ref ak) := (hf1).other W4 (Or.inr (slot_ne (Or.inr (hw _ (List.mem_of_getElem? (i := 32) rfl))) (Or.inl (hw _ (List.mem_of_getElem? (i := 77) rfl))) (by decide) (t := (.object "java/io/ByteArrayOutputStream")) (t' := (.object "com/example/tillwire/tillwire/HttpFraming$BodyReader$Part")) (by decide) (by decide)))
  have f4_2 : Fld Z h4 a1 "com/example/tillwire/tillwire/HttpFraming$BodyReader" "whole" "Z" (.int (1 : Int32)) := (hf2).other W4 (Or.inr (slot_ne (Or.inl (hw _ (List.mem_of_getElem? (i := 64) rfl))) (Or.inl (hw _ (List.mem_of_getElem? (i := 77) rfl))) (by decide) (t := .boolean) (t' := (.object "com/example/tillwire/tillwire/HttpFraming$BodyReader$Part")) (by decide) (by decide)))
  have f4_3 : Fld Z h4 a1 "com/example/tillwire/tillwire/HttpFraming$BodyReader" "chunked" "Z" (.int (0 : Int32)) := (hf3).other W4 (Or.inr (slot_ne (Or.inr (hw _ (List.mem_of_getElem? (i := 67) rfl))) (Or.inl (hw _ (List.mem_of_getElem? (i := 77) rfl))) (by decide) (t := .boolean) (t' := (.object "com/example/tillwire/tillwire/HttpFraming$BodyReader$Part")) (by decide) (by decide)))
  have f4_4 : Fld Z h4 a1 "com/example/tillwire/tillwire/HttpFraming$BodyReader" "left" "J" (.long (0 : Int64)) := (hf5).other W4 (Or.inr (slot_ne (Or.inl (hw _ (List.mem_of_getElem? (i := 127) rfl))) (Or.inl (hw _ (List.mem_of_getElem? (i := 77) rfl))) (by decide) (t := .long) (t' := (.object "com/example/tillwire/tillwire/HttpFraming$BodyReader$Part")) (by decide) (by decide)))
  have O4 := O0.wr W4 g_a1
  have N4 := Fr.snoc X4 N0 g_a1
  have K4 : Keep h0 h4 [a1] := (Keep.refl h0 [a1]).wr W4 (Or.inl (List.mem_of_getElem? (i := 0) rfl))
  obtain ⟨fs, hr, hrun, hended, hW, hsame⟩ := X4.leave (v := none) (fun _ => rfl)
  refine ⟨_, _, pre0 _ ?_, hrun, hended, _, _, rfl, ?_, ⟨_, rfl⟩, hW, hsame.mono (by decide) (by decide)⟩
  · show Steps p.tables e below (s₁.setTop (mkF m 0 #[.val (.ref a1)] [])) _
    refine XS.aloadN X0.here hx rfl (hb hby d17_0) rfl rfl ?_
    show Steps p.tables e below (s₁.setTop (mkF m 1 #[.val (.ref a1)] [(.ref a1)])) _
    refine st1 _ ?_
    show Steps p.tables e below (T1.setTop (mkF m 4 #[.val (.ref a1)] [(.long (0 : Int64))])) _
    refine XS.lconst X1.here hx rfl (hb hby d17_4) ?_
    show Steps p.tables e below (T1.setTop (mkF m 5 #[.val (.ref a1)] [(.long (0 : Int64)), (.long (0 : Int64))])) _
    refine XS.lcmp X1.here hx rfl (hb hby d17_5) rfl ?_
    show Steps p.tables e below (T1.setTop (mkF m 6 #[.val (.ref a1)] [(.int (lcmpW (0 : Int64) (0 : Int64)))])) _
    rw [show (lcmpW (0 : Int64) (0 : Int64)) = (0 : Int32) from by decide]
    show Steps p.tables e below (T1.setTop (mkF m 6 #[.val (.ref a1)] [(.int (0 : Int32))])) _
    refine XS.ifYes X1.here hx rfl (pc0 := 6) (pc' := 10) rfl (hb hby d17_6) rfl ((if0 _ _).trans (flt ((by decide) : ¬ ((0 : Int32) < (0 : Int32)))).2.2.2) (by decide) (by decide) ?_
    show Steps p.tables e below (T1.setTop (mkF m 10 #[.val (.ref a1)] [])) _
    refine XS.aloadN X1.here hx rfl (hb hby d17_10) rfl rfl ?_
    show Steps p.tables e below (T1.setTop (mkF m 11 #[.val (.ref a1)] [(.ref a1)])) _
    refine st2 _ ?_
    show Steps p.tables e below (T2.setTop (mkF m 14 #[.val (.ref a1)] [(.int (0 : Int32))])) _
    refine XS.ifYes X2.here hx rfl (pc0 := 14) (pc' := 30) rfl (hb hby d17_14) rfl ((if0 _ _).trans (teq ((by decide) : (0 : Int32) = (0 : Int32))).1) (by decide) (by decide) ?_
    show Steps p.tables e below (T2.setTop (mkF m 30 #[.val (.ref a1)] [])) _
    refine XS.aloadN X2.here hx rfl (hb hby d17_30) rfl rfl ?_
    show Steps p.tables e below (T2.setTop (mkF m 31 #[.val (.ref a1)] [(.ref a1)])) _
    refine st3 _ ?_
    show Steps p.tables e below (T3.setTop (mkF m 34 #[.val (.ref a1)] [(.ref w_n3), (.ref a1)])) _
    refine st4 _ ?_
    show Steps p.tables e below (T4.setTop (mkF m 37 #[.val (.ref a1)] [])) _
    exact X4.returnOut hx Bd.returns (hb hby d17_37) hr
  · show QW (fun v h => v = none ∧ Keep h0 h [a1] ∧ Exa Z h a1 "com/example/tillwire/tillwire/HttpFraming$BodyReader" ∧ Fld Z h a1 "com/example/tillwire/tillwire/HttpFraming$BodyReader" "kept" "Ljava/io/ByteArrayOutputStream;" (.ref ak) ∧ Fld Z h a1 "com/example/tillwire/tillwire/HttpFraming$BodyReader" "whole" "Z" (.int (1 : Int32)) ∧ Fld Z h a1 "com/example/tillwire/tillwire/HttpFraming$BodyReader" "chunked" "Z" (.int (0 : Int32)) ∧ Fld Z h a1 "com/example/tillwire/tillwire/HttpFraming$BodyReader" "part" "Lcom/example/tillwire/tillwire/HttpFraming$BodyReader$Part;" (.ref w_n3)) n0 _ T4.heap _
    rw [e4]
    exact ⟨N4, ⟨rfl, K4, f4_0, f4_1, f4_2, f4_3, fw4⟩⟩
theorem d16_0 : decode prog_23_method_8_code 0 = .ok (.aload_n 0, 1) := by decide +kernel
theorem d16_1 : decode prog_23_method_8_code 1 = .ok (.getfield 72, 3) := by decide +kernel
theorem d16_4 : decode prog_23_method_8_code 4 = .ok (.lconst 0, 1) := by decide +kernel
theorem d16_5 : decode prog_23_method_8_code 5 = .ok (.lcmp, 1) := by decide +kernel
theorem d16_6 : decode prog_23_method_8_code 6 = .ok (.ifCond .le 4, 3) := by decide +kernel
theorem d16_10 : decode prog_23_method_8_code 10 = .ok (.aload_n 0, 1) := by decide +kernel
theorem d16_11 : decode prog_23_method_8_code 11 = .ok (.dup, 1) := by decide +kernel
theorem d16_12 : decode prog_23_method_8_code 12 = .ok (.getfield 150, 3) := by decide +kernel
theorem d16_15 : decode prog_23_method_8_code 15 = .ok (.aload_n 0, 1) := by decide +kernel
theorem d16_16 : decode prog_23_method_8_code 16 = .ok (.getfield 66, 3) := by decide +kernel
theorem d16_19 : decode prog_23_method_8_code 19 = .ok (.ladd, 1) := by decide +kernel
theorem d16_20 : decode prog_23_method_8_code 20 = .ok (.putfield 150, 3) := by decide +kernel
theorem d16_23 : decode prog_23_method_8_code 23 = .ok (.aload_n 0, 1) := by decide +kernel
theorem d16_24 : decode prog_23_method_8_code 24 = .ok (.getfield 150, 3) := by decide +kernel
theorem d16_27 : decode prog_23_method_8_code 27 = .ok (.aload_n 0, 1) := by decide +kernel
theorem d16_28 : decode prog_23_method_8_code 28 = .ok (.getfield 38, 3) := by decide +kernel
theorem d16_31 : decode prog_23_method_8_code 31 = .ok (.lcmp, 1) := by decide +kernel
theorem d16_32 : decode prog_23_method_8_code 32 = .ok (.ifCond .le 18, 3) := by decide +kernel
theorem d16_50 : decode prog_23_method_8_code 50 = .ok (.aload_n 0, 1) := by decide +kernel
theorem d16_51 : decode prog_23_method_8_code 51 = .ok (.getstatic 153, 3) := by decide +kernel
theorem d16_54 : decode prog_23_method_8_code 54 = .ok (.putfield 57, 3) := by decide +kernel
theorem d16_57 : decode prog_23_method_8_code 57 = .ok (.aload_n 0, 1) := by decide +kernel
theorem d16_58 : decode prog_23_method_8_code 58 = .ok (.aload_n 0, 1) := by decide +kernel
theorem d16_59 : decode prog_23_method_8_code 59 = .ok (.getfield 66, 3) := by decide +kernel
theorem d16_62 : decode prog_23_method_8_code 62 = .ok (.putfield 72, 3) := by decide +kernel
theorem d16_65 : decode prog_23_method_8_code 65 = .ok (.aload_n 0, 1) := by decide +kernel
theorem d16_66 : decode prog_23_method_8_code 66 = .ok (.invokevirtual 156, 3) := by decide +kernel
theorem d16_69 : decode prog_23_method_8_code 69 = .ok (.return_, 1) := by decide +kernel
theorem ef_16_9 (m : MethodId) (x0 : Addr) : entryFrame m #[(.ref x0)] 1 = mkF m 0 #[.val (.ref x0)] [] := by first | (simp [entryFrame, mkF, argsToLocals, Value.category]; done) | rfl
theorem pn_16 : plainName "com/example/tillwire/tillwire/HttpFraming$BodyReader" = true := by first | (simp [plainName, overriddenIn]; done) | decide +kernel
set_option maxRecDepth 65536 in
set_option maxHeartbeats 40000000 in
theorem rm_ek1 (l : Launch) (Z : State) (a0 : Array Value) (hw : ∀ d ∈ tables_1, d.before a0 Z = true) (ws : List Jvm.Cond) {w_n2 : Addr} {w_n3 : Addr} {w_n4 : Addr} {w_n1 : Addr} {v_n0 : Int32} (W : Wd Z w_n2 w_n3 w_n4 w_n1 v_n0) (a1 : Addr) (ak : Addr) (qs : Int64) (h0 : Heap) (n0 : Nat) (O0 : Old Z n0 h0) (xk : ¬ ((0 : Int32) < (lcmpW (0 : Int64) qs))) (g_a1 : n0 ≤ a1) (hf0 : Exa Z h0 a1 "com/example/tillwire/tillwire/HttpFraming$BodyReader") (hf1 : Fld Z h0 a1 "com/example/tillwire/tillwire/HttpFraming$BodyReader" "kept" "Ljava/io/ByteArrayOutputStream;" (.ref ak)) (hf2 : Fld Z h0 a1 "com/example/tillwire/tillwire/HttpFraming$BodyReader" "whole" "Z" (.int (1 : Int32))) (hf3 : Fld Z h0 a1 "com/example/tillwire/tillwire/HttpFraming$BodyReader" "chunked" "Z" (.int (0 : Int32))) (hf4 : Fld Z h0 a1 "com/example/tillwire/tillwire/HttpFraming$BodyReader" "part" "Lcom/example/tillwire/tillwire/HttpFraming$BodyReader$Part;" (.ref w_n4)) (hf5 : Fld Z h0 a1 "com/example/tillwire/tillwire/HttpFraming$BodyReader" "left" "J" (.long (0 : Int64))) (hf6 : Fld Z h0 a1 "com/example/tillwire/tillwire/HttpFraming$BodyReader" "skipped" "J" (.long (0 : Int64))) (hf7 : Fld Z h0 a1 "com/example/tillwire/tillwire/HttpFraming$BodyReader" "passed" "J" (.long (0 : Int64))) (hf8 : Fld Z h0 a1 "com/example/tillwire/tillwire/HttpFraming$BodyReader" "skip" "J" (.long qs)) :
    MetFree l (⟨"com/example/tillwire/tillwire/HttpFraming$BodyReader", "endKept", "()V"⟩ : MethodName) (head1 (Jvm.Cond.code (⟨"com/example/tillwire/tillwire/HttpFraming$BodyReader", "endKept", "()V"⟩ : MethodName) prog_23_method_8_code 1 none :: ws) ({ frames := 1, cells := 0, slots := 0, locals := 12 } : Room)) (fun a U => a = #[(.ref a1)] ∧ Z.Warmed39 U.vm ∧ U.heap = h0) (fun _ _ _ _ _ => True) (fun _ U o U' => ∃ v L, o = .returned v ∧ QW (fun v h => v = none ∧ Keep h0 h [a1] ∧ Exa Z h a1 "com/example/tillwire/tillwire/HttpFraming$BodyReader" ∧ Fld Z h a1 "com/example/tillwire/tillwire/HttpFraming$BodyReader" "kept" "Ljava/io/ByteArrayOutputStream;" (.ref ak) ∧ Fld Z h a1 "com/example/tillwire/tillwire/HttpFraming$BodyReader" "whole" "Z" (.int (1 : Int32)) ∧ Fld Z h a1 "com/example/tillwire/tillwire/HttpFraming$BodyReader" "chunked" "Z" (.int (0 : Int32)) ∧ Fld Z h a1 "com/example/tillwire/tillwire/HttpFraming$BodyReader" "part" "Lcom/example/tillwire/tillwire/HttpFraming$BodyReader$Part;" (.ref w_n3)) n0 v U'.heap L ∧ FrameEnd U o U' L ({ frames := 1, cells := 0, slots := 0, locals := 12 } : Room).cells ({ frames := 1, cells := 0, slots := 0, locals := 12 } : Room).slots) := by
  have W' := W; obtain ⟨S_n2, E_n2, S_n3, E_n3, S_n4, E_n4, S_n1, E_n1, S_n0, N_n0, F_n2_ordinal, F_n3_ordinal⟩ := W'
  refine MetFree.of_bodySF (plainFor_of_name pn_16) hisR ?_
  intro p e s m args below meth c s₁ Bd hml0 hP hK
  obtain ⟨rfl, hZ, hh⟩ := hP
  have hx := Bd.exec
  have hby := Bd.bytes
  have hml : c.maxLocals = 1 := hml0
  have hown : s.vm.findClass "com/example/tillwire/tillwire/HttpFraming$BodyReader" = some m.cls := findClass_of_methodNamed Bd.named
  have hnm := (name_of_methodNamed Bd.named Bd.method).1
  have X0 : Stand p l e ({ frames := 1, cells := 0, slots := 0, locals := 12 } : Room) s m #[(.ref a1)] below meth c s₁ [] 0 0 := Stand.of_body Bd
  have e0 : s₁.heap = h0 := by rw [← hh, Bd.state]; rfl
  have N0 := Fr.nil n0
  have pre0 : ∀ t, Steps p.tables e below (s₁.setTop (mkF m 0 #[.val (.ref a1)] [])) t → Steps p.tables e below (s₁.setTop (entryFrame m #[(.ref a1)] 1)) t := fun t k => castTop (ef_16_9 m a1) k
  obtain ⟨T1, X1, e1, st1⟩ := getF X0 hx hZ hown (host := "") (Or.inl (hw _ (List.mem_of_getElem? (i := 126) rfl))) Via.refl e0 hf5 (g := (mkF m 1 #[.val (.ref a1)] [(.ref a1)])) rfl rfl (hb hby d16_1)
  obtain ⟨T2, X2, e2, st2⟩ := getF X1 hx hZ hown (host := "") (Or.inl (hw _ (List.mem_of_getElem? (i := 132) rfl))) Via.refl e1 hf6 (g := (mkF m 12 #[.val (.ref a1)] [(.ref a1), (.ref a1)])) rfl rfl (hb hby d16_12)
  obtain ⟨T3, X3, e3, st3⟩ := getF X2 hx hZ hown (host := "") (Or.inl (hw _ (List.mem_of_getElem? (i := 122) rfl))) Via.refl e2 hf7 (g := (mkF m 16 #[.val (.ref a1)] [(.ref a1), (.long (0 : Int64)), (.ref a1)])) rfl rfl (hb hby d16_16)
  obtain ⟨T4, h4, X4, e4, W4, st4⟩ := putF X3 hx hZ hown (host := "") (Or.inl (hw _ (List.mem_of_getElem? (i := 132) rfl))) Via.refl e3 hf6 hf0 (Or.inl (hw _ (List.mem_of_getElem? (i := 133) rfl))) (hw _ (List.mem_of_getElem? (i := 3) rfl)) (ty := .long) (by decide) rfl rfl (g := (mkF m 20 #[.val (.ref a1)] [(.long (0 : Int64)), (.ref a1)])) rfl rfl (hb hby d16_20)
  have fw4 : Fld Z h4 a1 "com/example/tillwire/tillwire/HttpFraming$BodyReader" "skipped" "J" (.long (0 : Int64)) := (hf6).same W4
  have f4_0 : Exa Z h4 a1 "com/example/tillwire/tillwire/HttpFraming$BodyReader" := (hf0).wr W4
  have f4_1 : Fld Z h4 a1 "com/example/tillwire/tillwire/HttpFraming$BodyReader" "kept" "Ljava/io/ByteArrayOutputStream;" (.ref ak) := (hf1).other W4 (Or.inr (slot_ne (Or.inr (hw _ (List.mem_of_getElem? (i := 32) rfl))) (Or.inl (hw _ (List.mem_of_getElem? (i := 133) rfl))) (by decide) (t := (.object "java/io/ByteArrayOutputStream")) (t' := .long) (by decide) (by decide)))
  have f4_2 : Fld Z h4 a1 "com/example/tillwire/tillwire/HttpFraming$BodyReader" "whole" "Z" (.int (1 : Int32)) := (hf2).other W4 (Or.inr (slot_ne (Or.inl (hw _ (List.mem_of_getElem? (i := 64) rfl))) (Or.inl (hw _ (List.mem_of_getElem? (i := 133) rfl))) (by decide) (t := .boolean) (t' := .long) (by decide) (by decide)))
  have f4_3 : Fld Z h4 a1 "com/example/tillwire/tillwire/HttpFraming$BodyReader" "chunked" "Z" (.int (0 : Int32)) := (hf3).other W4 (Or.inr (slot_ne (Or.inr (hw _ (List.mem_of_getElem? (i := 67) rfl))) (Or.inl (hw _ (List.mem_of_getElem? (i := 133) rfl))) (by decide) (t := .boolean) (t' := .long) (by decide) (by decide)))
  have f4_4 : Fld Z h4 a1 "com/example/tillwire/tillwire/HttpFraming$BodyReader" "part" "Lcom/example/tillwire/tillwire/HttpFraming$BodyReader$Part;" (.ref w_n4) := (hf4).other W4 (Or.inr (slot_ne (Or.inl (hw _ (List.mem_of_getElem? (i := 77) rfl))) (Or.inl (hw _ (List.mem_of_getElem? (i := 133) rfl))) (by decide) (t := (.object "com/example/tillwire/tillwire/HttpFraming$BodyReader$Part")) (t' := .long) (by decide) (by decide)))
  have f4_5 : Fld Z h4 a1 "com/example/tillwire/tillwire/HttpFraming$BodyReader" "left" "J" (.long (0 : Int64)) := (hf5).other W4 (Or.inr (slot_ne (Or.inl (hw _ (List.mem_of_getElem? (i := 127) rfl))) (Or.inl (hw _ (List.mem_of_getElem? (i := 133) rfl))) (by decide) (t := .long) (t' := .long) (by decide) (by decide)))
  have f4_6 : Fld Z h4 a1 "com/example/tillwire/tillwire/HttpFraming$BodyReader" "passed" "J" (.long (0 : Int64)) := (hf7).other W4 (Or.inr (slot_ne (Or.inl (hw _ (List.mem_of_getElem? (i := 123) rfl))) (Or.inl (hw _ (List.mem_of_getElem? (i := 133) rfl))) (by decide) (t := .long) (t' := .long) (by decide) (by decide)))
  have f4_7 : Fld Z h4 a1 "com/example/tillwire/tillwire/HttpFraming$BodyReader" "skip" "J" (.long qs) := (hf8).other W4 (Or.inr (slot_ne (Or.inr (hw _ (List.mem_of_getElem? (i := 71) rfl))) (Or.inl (hw _ (List.mem_of_getElem? (i := 133) rfl))) (by decide) (t := .long) (t' := .long) (by decide) (by decide)))
  have O4 := O0.wr W4 g_a1
  have N4 := Fr.snoc X4 N0 g_a1
  have K4 : Keep h0 h4 [a1] := (Keep.refl h0 [a1]).wr W4 (Or.inl (List.mem_of_getElem? (i := 0) rfl))
  obtain ⟨T5, X5, e5, st5⟩ := getF X4 hx hZ hown (host := "") (Or.inl (hw _ (List.mem_of_getElem? (i := 132) rfl))) Via.refl e4 fw4 (g := (mkF m 24 #[.val (.ref a1)] [(.ref a1)])) rfl rfl (hb hby d16_24)
  obtain ⟨T6, X6, e6, st6⟩ := getF X5 hx hZ hown (host := "") (Or.inl (hw _ (List.mem_of_getElem? (i := 70) rfl))) Via.refl e5 f4_7 (g := (mkF m 28 #[.val (.ref a1)] [(.ref a1), (.long (0 : Int64))])) rfl rfl (hb hby d16_28)
  obtain ⟨T7, X7, e7, st7⟩ := getS2 X6 hx hZ hown (host := "") (Or.inl (hw _ (List.mem_of_getElem? (i := 134) rfl))) Via.refl e6 (S_n1.ext O4.2) (g := (mkF m 51 #[.val (.ref a1)] [(.ref a1)])) rfl (hb hby d16_51)
  obtain ⟨T8, h8, X8, e8, W8, st8⟩ := putF X7 hx hZ hown (host := "") (Or.inl (hw _ (List.mem_of_getElem? (i := 76) rfl))) Via.refl e7 f4_4 f4_0 (Or.inl (hw _ (List.mem_of_getElem? (i := 77) rfl))) (hw _ (List.mem_of_getElem? (i := 3) rfl)) (ty := (.object "com/example/tillwire/tillwire/HttpFraming$BodyReader$Part")) (by decide) rfl rfl (g := (mkF m 54 #[.val (.ref a1)] [(.ref w_n1), (.ref a1)])) rfl rfl (hb hby d16_54)
  have fw8 : Fld Z h8 a1 "com/example/tillwire/tillwire/HttpFraming$BodyReader" "part" "Lcom/example/tillwire/tillwire/HttpFraming$BodyReader$Part;" (.ref w_n1) := (f4_4).same W8
  have f8_0 : Exa Z h8 a1 "com/example/tillwire/tillwire/HttpFraming$BodyReader" := (f4_0).wr W8
  have f8_1 : Fld Z h8 a1 "com/example/tillwire/tillwire/HttpFraming$BodyReader" "kept" "Ljava/io/ByteArrayOutputStream;" (.ref ak) := (f4_1).other W8 (Or.inr (slot_ne (Or.inr (hw _ (List.mem_of_getElem? (i := 32) rfl))) (Or.inl (hw _ (List.mem_of_getElem? (i := 77) rfl))) (by decide) (t := (.object "java/io/ByteArrayOutputStream")) (t' := (.object "com/example/tillwire/tillwire/HttpFraming$BodyReader$Part")) (by decide) (by decide)))
  have f8_2 : Fld Z h8 a1 "com/example/tillwire/tillwire/HttpFraming$BodyReader" "whole" "Z" (.int (1 : Int32)) := (f4_2).other W8 (Or.inr (slot_ne (Or.inl (hw _ (List.mem_of_getElem? (i := 64) rfl))) (Or.inl (hw _ (List.mem_of_getElem? (i := 77) rfl))) (by decide) (t := .boolean) (t' := (.object "com/example/tillwire/tillwire/HttpFraming$BodyReader$Part")) (by decide) (by decide)))
  have f8_3 : Fld Z h8 a1 "com/example/tillwire/tillwire/HttpFraming$BodyReader" "chunked" "Z" (.int (0 : Int32)) := (f4_3).other W8 (Or.inr (slot_ne (Or.inr (hw _ (List.mem_of_getElem? (i := 67) rfl))) (Or.inl (hw _ (List.mem_of_getElem? (i := 77) rfl))) (by decide) (t := .boolean) (t' := (.object "com/example/tillwire/tillwire/HttpFraming$BodyReader$Part")) (by decide) (by decide)))
  have f8_4 : Fld Z h8 a1 "com/example/tillwire/tillwire/HttpFraming$BodyReader" "left" "J" (.long (0 : Int64)) := (f4_5).other W8 (Or.inr (slot_ne (Or.inl (hw _ (List.mem_of_getElem? (i := 127) rfl))) (Or.inl (hw _ (List.mem_of_getElem? (i := 77) rfl))) (by decide) (t := .long) (t' := (.object "com/example/tillwire/tillwire/HttpFraming$BodyReader$Part")) (by decide) (by decide)))
  have f8_5 : Fld Z h8 a1 "com/example/tillwire/tillwire/HttpFraming$BodyReader" "passed" "J" (.long (0 : Int64)) := (f4_6).other W8 (Or.inr (slot_ne (Or.inl (hw _ (List.mem_of_getElem? (i := 123) rfl))) (Or.inl (hw _ (List.mem_of_getElem? (i := 77) rfl))) (by decide) (t := .long) (t' := (.object "com/example/tillwire/tillwire/HttpFraming$BodyReader$Part")) (by decide) (by decide)))
  have f8_6 : Fld Z h8 a1 "com/example/tillwire/tillwire/HttpFraming$BodyReader" "skip" "J" (.long qs) := (f4_7).other W8 (Or.inr (slot_ne (Or.inr (hw _ (List.mem_of_getElem? (i := 71) rfl))) (Or.inl (hw _ (List.mem_of_getElem? (i := 77) rfl))) (by decide) (t := .long) (t' := (.object "com/example/tillwire/tillwire/HttpFraming$BodyReader$Part")) (by decide) (by decide)))
  have f8_7 : Fld Z h8 a1 "com/example/tillwire/tillwire/HttpFraming$BodyReader" "skipped" "J" (.long (0 : Int64)) := (fw4).other W8 (Or.inr (slot_ne (Or.inl (hw _ (List.mem_of_getElem? (i := 133) rfl))) (Or.inl (hw _ (List.mem_of_getElem? (i := 77) rfl))) (by decide) (t := .long) (t' := (.object "com/example/tillwire/tillwire/HttpFraming$BodyReader$Part")) (by decide) (by decide)))
  have O8 := O4.wr W8 g_a1
  have N8 := Fr.snoc X8 N4 g_a1
  have K8 : Keep h0 h8 [a1] := K4.wr W8 (Or.inl (List.mem_of_getElem? (i := 0) rfl))
  obtain ⟨T9, X9, e9, st9⟩ := getF X8 hx hZ hown (host := "") (Or.inl (hw _ (List.mem_of_getElem? (i := 122) rfl))) Via.refl e8 f8_5 (g := (mkF m 59 #[.val (.ref a1)] [(.ref a1), (.ref a1)])) rfl rfl (hb hby d16_59)
  obtain ⟨T10, h10, X10, e10, W10, st10⟩ := putF X9 hx hZ hown (host := "") (Or.inl (hw _ (List.mem_of_getElem? (i := 126) rfl))) Via.refl e9 f8_4 f8_0 (Or.inl (hw _ (List.mem_of_getElem? (i := 127) rfl))) (hw _ (List.mem_of_getElem? (i := 3) rfl)) (ty := .long) (by decide) rfl rfl (g := (mkF m 62 #[.val (.ref a1)] [(.long (0 : Int64)), (.ref a1)])) rfl rfl (hb hby d16_62)
  have fw10 : Fld Z h10 a1 "com/example/tillwire/tillwire/HttpFraming$BodyReader" "left" "J" (.long (0 : Int64)) := (f8_4).same W10
  have f10_0 : Exa Z h10 a1 "com/example/tillwire/tillwire/HttpFraming$BodyReader" := (f8_0).wr W10
  have f10_1 : Fld Z h10 a1 "com/example/tillwire/tillwire/HttpFraming$BodyReader" "kept" "Ljava/io/ByteArrayOutputStream;" (.ref ak) := (f8_1).other W10 (Or.inr (slot_ne (Or.inr (hw _ (List.mem_of_getElem? (i := 32) rfl))) (Or.inl (hw _ (List.mem_of_getElem? (i := 127) rfl))) (by decide) (t := (.object "java/io/ByteArrayOutputStream")) (t' := .long) (by decide) (by decide)))
  have f10_2 : Fld Z h10 a1 "com/example/tillwire/tillwire/HttpFraming$BodyReader" "whole" "Z" (.int (1 : Int32)) := (f8_2).other W10 (Or.inr (slot_ne (Or.inl (hw _ (List.mem_of_getElem? (i := 64) rfl))) (Or.inl (hw _ (List.mem_of_getElem? (i := 127) rfl))) (by decide) (t := .boolean) (t' := .long) (by decide) (by decide)))
  have f10_3 : Fld Z h10 a1 "com/example/tillwire/tillwire/HttpFraming$BodyReader" "chunked" "Z" (.int (0 : Int32)) := (f8_3).other W10 (Or.inr (slot_ne (Or.inr (hw _ (List.mem_of_getElem? (i := 67) rfl))) (Or.inl (hw _ (List.mem_of_getElem? (i := 127) rfl))) (by decide) (t := .boolean) (t' := .long) (by decide) (by decide)))
  have f10_4 : Fld Z h10 a1 "com/example/tillwire/tillwire/HttpFraming$BodyReader" "passed" "J" (.long (0 : Int64)) := (f8_5).other W10 (Or.inr (slot_ne (Or.inl (hw _ (List.mem_of_getElem? (i := 123) rfl))) (Or.inl (hw _ (List.mem_of_getElem? (i := 127) rfl))) (by decide) (t := .long) (t' := .long) (by decide) (by decide)))
  have f10_5 : Fld Z h10 a1 "com/example/tillwire/tillwire/HttpFraming$BodyReader" "skip" "J" (.long qs) := (f8_6).other W10 (Or.inr (slot_ne (Or.inr (hw _ (List.mem_of_getElem? (i := 71) rfl))) (Or.inl (hw _ (List.mem_of_getElem? (i := 127) rfl))) (by decide) (t := .long) (t' := .long) (by decide) (by decide)))
  have f10_6 : Fld Z h10 a1 "com/example/tillwire/tillwire/HttpFraming$BodyReader" "skipped" "J" (.long (0 : Int64)) := (f8_7).other W10 (Or.inr (slot_ne (Or.inl (hw _ (List.mem_of_getElem? (i := 133) rfl))) (Or.inl (hw _ (List.mem_of_getElem? (i := 127) rfl))) (by decide) (t := .long) (t' := .long) (by decide) (by decide)))
  have f10_7 : Fld Z h10 a1 "com/example/tillwire/tillwire/HttpFraming$BodyReader" "part" "Lcom/example/tillwire/tillwire/HttpFraming$BodyReader$Part;" (.ref w_n1) := (fw8).other W10 (Or.inr (slot_ne (Or.inl (hw _ (List.mem_of_getElem? (i := 77) rfl))) (Or.inl (hw _ (List.mem_of_getElem? (i := 127) rfl))) (by decide) (t := (.object "com/example/tillwire/tillwire/HttpFraming$BodyReader$Part")) (t' := .long) (by decide) (by decide)))
  have O10 := O8.wr W10 g_a1
  have N10 := Fr.snoc X10 N8 g_a1
  have K10 : Keep h0 h10 [a1] := K8.wr W10 (Or.inl (List.mem_of_getElem? (i := 0) rfl))
  obtain ⟨cq11, q11, q11'⟩ := (f10_0).cell
  obtain ⟨_, _, ⟨T11, L11, k11, n11⟩, -, X11, ⟨Lc11, hQ11, l11, y11, z11⟩, st11⟩ := X10.privateBack hx (y := (⟨"com/example/tillwire/tillwire/HttpFraming$BodyReader", "endSkipped", "()V"⟩ : MethodName)) hown (mvT hZ (hw _ (List.mem_of_getElem? (i := 136) rfl))) (mvT hZ (hw _ (List.mem_of_getElem? (i := 137) rfl))) (own_selP hZ (hw _ (List.mem_of_getElem? (i := 81) rfl)) rfl (hw _ (List.mem_of_getElem? (i := 138) rfl)) (hw _ (List.mem_of_getElem? (i := 137) rfl)) (by decide)) (Cond.privateMethod_at (mvP hZ (hw _ (List.mem_of_getElem? (i := 138) rfl)) (args := #[]))) (mvT hZ (hw _ (List.mem_of_getElem? (i := 139) rfl))) (by decide) (backOf (W := 0) (rm_es l Z a0 hw [] W a1 ak h10 n0 O10 g_a1 f10_0 f10_1 f10_2 f10_3 f10_7 fw10) hZ (hw _ (List.mem_of_getElem? (i := 139) rfl)) (hw _ (List.mem_of_getElem? (i := 4) rfl)) (by decide) (by decide)) (g := (mkF m 66 #[.val (.ref a1)] [(.ref a1)])) rfl (by rw [hml]; rfl) (Steps.refl _) (a := a1) (by rw [e10]; exact q11) q11' (argsL := []) (rest := []) (lenOf pd_0 rfl) rfl (by show 2 * 0 + _ ≤ _; exact Nat.le_of_eq rfl) (hb hby d16_66) (fun _ _ => ⟨rfl, e10, (by decide : 0 + 0 ≤ _), (by decide : 0 + 0 ≤ _)⟩)
  dsimp only [Pt.U, Pt.locs, Pt.cells, Pt.slots] at X11 l11 y11 z11 st11 hQ11
  subst l11 y11 z11
  obtain ⟨N11q, hP11⟩ := hQ11
  have N11 := Fr.app N10 N11q
  obtain ⟨rfl, Kp11, fp11_0, fp11_1, fp11_2, fp11_3, fp11_4⟩ := hP11
  have f11_0 : Exa Z T11.heap a1 "com/example/tillwire/tillwire/HttpFraming$BodyReader" := (f10_0).keep Kp11
  have O11 := O10.keep Kp11 (allS g_a1 all0)
  have K11 : Keep h0 T11.heap [a1] := K10.trans Kp11 (allS (Or.inl (List.mem_of_getElem? (i := 0) rfl)) all0)
  obtain ⟨fs, hr, hrun, hended, hW, hsame⟩ := X11.leave (v := none) (fun _ => rfl)
  refine ⟨_, _, pre0 _ ?_, hrun, hended, _, _, rfl, ?_, ⟨_, rfl⟩, hW, hsame.mono (by decide) (by decide)⟩
  · show Steps p.tables e below (s₁.setTop (mkF m 0 #[.val (.ref a1)] [])) _
    refine XS.aloadN X0.here hx rfl (hb hby d16_0) rfl rfl ?_
    show Steps p.tables e below (s₁.setTop (mkF m 1 #[.val (.ref a1)] [(.ref a1)])) _
    refine st1 _ ?_
    show Steps p.tables e below (T1.setTop (mkF m 4 #[.val (.ref a1)] [(.long (0 : Int64))])) _
    refine XS.lconst X1.here hx rfl (hb hby d16_4) ?_
    show Steps p.tables e below (T1.setTop (mkF m 5 #[.val (.ref a1)] [(.long (0 : Int64)), (.long (0 : Int64))])) _
    refine XS.lcmp X1.here hx rfl (hb hby d16_5) rfl ?_
    show Steps p.tables e below (T1.setTop (mkF m 6 #[.val (.ref a1)] [(.int (lcmpW (0 : Int64) (0 : Int64)))])) _
    rw [show (lcmpW (0 : Int64) (0 : Int64)) = (0 : Int32) from by decide]
    show Steps p.tables e below (T1.setTop (mkF m 6 #[.val (.ref a1)] [(.int (0 : Int32))])) _
    refine XS.ifYes X1.here hx rfl (pc0 := 6) (pc' := 10) rfl (hb hby d16_6) rfl ((if0 _ _).trans (flt ((by decide) : ¬ ((0 : Int32) < (0 : Int32)))).2.2.2) (by decide) (by decide) ?_
    show Steps p.tables e below (T1.setTop (mkF m 10 #[.val (.ref a1)] [])) _
    refine XS.aloadN X1.here hx rfl (hb hby d16_10) rfl rfl ?_
    show Steps p.tables e below (T1.setTop (mkF m 11 #[.val (.ref a1)] [(.ref a1)])) _
    refine XS.dup X1.here hx rfl (hb hby d16_11) rfl rfl ?_
    show Steps p.tables e below (T1.setTop (mkF m 12 #[.val (.ref a1)] [(.ref a1), (.ref a1)])) _
    refine st2 _ ?_
    show Steps p.tables e below (T2.setTop (mkF m 15 #[.val (.ref a1)] [(.long (0 : Int64)), (.ref a1)])) _
    refine XS.aloadN X2.here hx rfl (hb hby d16_15) rfl rfl ?_
    show Steps p.tables e below (T2.setTop (mkF m 16 #[.val (.ref a1)] [(.ref a1), (.long (0 : Int64)), (.ref a1)])) _
    refine st3 _ ?_
    show Steps p.tables e below (T3.setTop (mkF m 19 #[.val (.ref a1)] [(.long (0 : Int64)), (.long (0 : Int64)), (.ref a1)])) _
    refine XS.ladd X3.here hx rfl (hb hby d16_19) rfl ?_
    show Steps p.tables e below (T3.setTop (mkF m 20 #[.val (.ref a1)] [(.long ((0 : Int64) + (0 : Int64))), (.ref a1)])) _
    rw [show ((0 : Int64) + (0 : Int64)) = (0 : Int64) from by decide]
    show Steps p.tables e below (T3.setTop (mkF m 20 #[.val (.ref a1)] [(.long (0 : Int64)), (.ref a1)])) _
    refine st4 _ ?_
    show Steps p.tables e below (T4.setTop (mkF m 23 #[.val (.ref a1)] [])) _
    refine XS.aloadN X4.here hx rfl (hb hby d16_23) rfl rfl ?_
    show Steps p.tables e below (T4.setTop (mkF m 24 #[.val (.ref a1)] [(.ref a1)])) _
    refine st5 _ ?_
    show Steps p.tables e below (T5.setTop (mkF m 27 #[.val (.ref a1)] [(.long (0 : Int64))])) _
    refine XS.aloadN X5.here hx rfl (hb hby d16_27) rfl rfl ?_
    show Steps p.tables e below (T5.setTop (mkF m 28 #[.val (.ref a1)] [(.ref a1), (.long (0 : Int64))])) _
    refine st6 _ ?_
    show Steps p.tables e below (T6.setTop (mkF m 31 #[.val (.ref a1)] [(.long qs), (.long (0 : Int64))])) _
    refine XS.lcmp X6.here hx rfl (hb hby d16_31) rfl ?_
    show Steps p.tables e below (T6.setTop (mkF m 32 #[.val (.ref a1)] [(.int (lcmpW (0 : Int64) qs))])) _
    refine XS.ifYes X6.here hx rfl (pc0 := 32) (pc' := 50) rfl (hb hby d16_32) rfl ((if0 _ _).trans (flt (xk : ¬ ((0 : Int32) < (lcmpW (0 : Int64) qs)))).2.2.2) (by decide) (by decide) ?_
    show Steps p.tables e below (T6.setTop (mkF m 50 #[.val (.ref a1)] [])) _
    refine XS.aloadN X6.here hx rfl (hb hby d16_50) rfl rfl ?_
    show Steps p.tables e below (T6.setTop (mkF m 51 #[.val (.ref a1)] [(.ref a1)])) _
    refine st7 _ ?_
    show Steps p.tables e below (T7.setTop (mkF m 54 #[.val (.ref a1)] [(.ref w_n1), (.ref a1)])) _
    refine st8 _ ?_
    show Steps p.tables e below (T8.setTop (mkF m 57 #[.val (.ref a1)] [])) _
    refine XS.aloadN X8.here hx rfl (hb hby d16_57) rfl rfl ?_
    show Steps p.tables e below (T8.setTop (mkF m 58 #[.val (.ref a1)] [(.ref a1)])) _
    refine XS.aloadN X8.here hx rfl (hb hby d16_58) rfl rfl ?_
    show Steps p.tables e below (T8.setTop (mkF m 59 #[.val (.ref a1)] [(.ref a1), (.ref a1)])) _
    refine st9 _ ?_
    show Steps p.tables e below (T9.setTop (mkF m 62 #[.val (.ref a1)] [(.long (0 : Int64)), (.ref a1)])) _
    refine st10 _ ?_
    show Steps p.tables e below (T10.setTop (mkF m 65 #[.val (.ref a1)] [])) _
    refine XS.aloadN X10.here hx rfl (hb hby d16_65) rfl rfl ?_
    show Steps p.tables e below (T10.setTop (mkF m 66 #[.val (.ref a1)] [(.ref a1)])) _
    refine st11.trans ?_
    show Steps p.tables e below (T11.setTop (mkF m 69 #[.val (.ref a1)] [])) _
    exact X11.returnOut hx Bd.returns (hb hby d16_69) hr
  · show QW (fun v h => v = none ∧ Keep h0 h [a1] ∧ Exa Z h a1 "com/example/tillwire/tillwire/HttpFraming$BodyReader" ∧ Fld Z h a1 "com/example/tillwire/tillwire/HttpFraming$BodyReader" "kept" "Ljava/io/ByteArrayOutputStream;" (.ref ak) ∧ Fld Z h a1 "com/example/tillwire/tillwire/HttpFraming$BodyReader" "whole" "Z" (.int (1 : Int32)) ∧ Fld Z h a1 "com/example/tillwire/tillwire/HttpFraming$BodyReader" "chunked" "Z" (.int (0 : Int32)) ∧ Fld Z h a1 "com/example/tillwire/tillwire/HttpFraming$BodyReader" "part" "Lcom/example/tillwire/tillwire/HttpFraming$BodyReader$Part;" (.ref w_n3)) n0 _ T11.heap _
    exact ⟨N11, ⟨rfl, K11, fp11_0, fp11_1, fp11_2, fp11_3, fp11_4⟩⟩
theorem d16_35 : decode prog_23_method_8_code 35 = .ok (.aload_n 0, 1) := by decide +kernel
theorem d16_36 : decode prog_23_method_8_code 36 = .ok (.iconst 0, 1) := by decide +kernel
theorem d16_37 : decode prog_23_method_8_code 37 = .ok (.putfield 25, 3) := by decide +kernel
theorem d16_40 : decode prog_23_method_8_code 40 = .ok (.aload_n 0, 1) := by decide +kernel
theorem d16_41 : decode prog_23_method_8_code 41 = .ok (.getstatic 78, 3) := by decide +kernel
theorem d16_44 : decode prog_23_method_8_code 44 = .ok (.putfield 57, 3) := by decide +kernel
theorem d16_47 : decode prog_23_method_8_code 47 = .ok (.goto 22, 3) := by decide +kernel
set_option maxRecDepth 65536 in
set_option maxHeartbeats 40000000 in
theorem rm_ek0 (l : Launch) (Z : State) (a0 : Array Value) (hw : ∀ d ∈ tables_1, d.before a0 Z = true) (ws : List Jvm.Cond) {w_n2 : Addr} {w_n3 : Addr} {w_n4 : Addr} {w_n1 : Addr} {v_n0 : Int32} (W : Wd Z w_n2 w_n3 w_n4 w_n1 v_n0) (a1 : Addr) (ak : Addr) (qs : Int64) (h0 : Heap) (n0 : Nat) (O0 : Old Z n0 h0) (xk : (0 : Int32) < (lcmpW (0 : Int64) qs)) (g_a1 : n0 ≤ a1) (hf0 : Exa Z h0 a1 "com/example/tillwire/tillwire/HttpFraming$BodyReader") (hf1 : Fld Z h0 a1 "com/example/tillwire/tillwire/HttpFraming$BodyReader" "kept" "Ljava/io/ByteArrayOutputStream;" (.ref ak)) (hf2 : Fld Z h0 a1 "com/example/tillwire/tillwire/HttpFraming$BodyReader" "whole" "Z" (.int (1 : Int32))) (hf3 : Fld Z h0 a1 "com/example/tillwire/tillwire/HttpFraming$BodyReader" "chunked" "Z" (.int (0 : Int32))) (hf4 : Fld Z h0 a1 "com/example/tillwire/tillwire/HttpFraming$BodyReader" "part" "Lcom/example/tillwire/tillwire/HttpFraming$BodyReader$Part;" (.ref w_n4)) (hf5 : Fld Z h0 a1 "com/example/tillwire/tillwire/HttpFraming$BodyReader" "left" "J" (.long (0 : Int64))) (hf6 : Fld Z h0 a1 "com/example/tillwire/tillwire/HttpFraming$BodyReader" "skipped" "J" (.long (0 : Int64))) (hf7 : Fld Z h0 a1 "com/example/tillwire/tillwire/HttpFraming$BodyReader" "passed" "J" (.long (0 : Int64))) (hf8 : Fld Z h0 a1 "com/example/tillwire/tillwire/HttpFraming$BodyReader" "skip" "J" (.long qs)) :
    MetFree l (⟨"com/example/tillwire/tillwire/HttpFraming$BodyReader", "endKept", "()V"⟩ : MethodName) (head1 (Jvm.Cond.code (⟨"com/example/tillwire/tillwire/HttpFraming$BodyReader", "endKept", "()V"⟩ : MethodName) prog_23_method_8_code 1 none :: ws) ({ frames := 0, cells := 0, slots := 0, locals := 0 } : Room)) (fun a U => a = #[(.ref a1)] ∧ Z.Warmed39 U.vm ∧ U.heap = h0) (fun _ _ _ _ _ => True) (fun _ U o U' => ∃ v L, o = .returned v ∧ QW (fun v h => v = none ∧ Keep h0 h [a1] ∧ Exa Z h a1 "com/example/tillwire/tillwire/HttpFraming$BodyReader" ∧ Fld Z h a1 "com/example/tillwire/tillwire/HttpFraming$BodyReader" "kept" "Ljava/io/ByteArrayOutputStream;" (.ref ak) ∧ Fld Z h a1 "com/example/tillwire/tillwire/HttpFraming$BodyReader" "whole" "Z" (.int (0 : Int32)) ∧ Fld Z h a1 "com/example/tillwire/tillwire/HttpFraming$BodyReader" "chunked" "Z" (.int (0 : Int32)) ∧ Fld Z h a1 "com/example/tillwire/tillwire/HttpFraming$BodyReader" "part" "Lcom/example/tillwire/tillwire/HttpFraming$BodyReader$Part;" (.ref w_n3)) n0 v U'.heap L ∧ FrameEnd U o U' L ({ frames := 0, cells := 0, slots := 0, locals := 0 } : Room).cells ({ frames := 0, cells := 0, slots := 0, locals := 0 } : Room).slots) := by
  have W' := W; obtain ⟨S_n2, E_n2, S_n3, E_n3, S_n4, E_n4, S_n1, E_n1, S_n0, N_n0, F_n2_ordinal, F_n3_ordinal⟩ := W'
  refine MetFree.of_bodySF (plainFor_of_name pn_16) hisR ?_
  intro p e s m args below meth c s₁ Bd hml0 hP hK
  obtain ⟨rfl, hZ, hh⟩ := hP
  have hx := Bd.exec
  have hby := Bd.bytes
  have hml : c.maxLocals = 1 := hml0
  have hown : s.vm.findClass "com/example/tillwire/tillwire/HttpFraming$BodyReader" = some m.cls := findClass_of_methodNamed Bd.named
  have hnm := (name_of_methodNamed Bd.named Bd.method).1
  have X0 : Stand p l e ({ frames := 0, cells := 0, slots := 0, locals := 0 } : Room) s m #[(.ref a1)] below meth c s₁ [] 0 0 := Stand.of_body Bd
  have e0 : s₁.heap = h0 := by rw [← hh, Bd.state]; rfl
  have N0 := Fr.nil n0
  have pre0 : ∀ t, Steps p.tables e below (s₁.setTop (mkF m 0 #[.val (.ref a1)] [])) t → Steps p.tables e below (s₁.setTop (entryFrame m #[(.ref a1)] 1)) t := fun t k => castTop (ef_16_9 m a1) k
  obtain ⟨T1, X1, e1, st1⟩ := getF X0 hx hZ hown (host := "") (Or.inl (hw _ (List.mem_of_getElem? (i := 126) rfl))) Via.refl e0 hf5 (g := (mkF m 1 #[.val (.ref a1)] [(.ref a1)])) rfl rfl (hb hby d16_1)
  obtain ⟨T2, X2, e2, st2⟩ := getF X1 hx hZ hown (host := "") (Or.inl (hw _ (List.mem_of_getElem? (i := 132) rfl))) Via.refl e1 hf6 (g := (mkF m 12 #[.val (.ref a1)] [(.ref a1), (.ref a1)])) rfl rfl (hb hby d16_12)
  obtain ⟨T3, X3, e3, st3⟩ := getF X2 hx hZ hown (host := "") (Or.inl (hw _ (List.mem_of_getElem? (i := 122) rfl))) Via.refl e2 hf7 (g := (mkF m 16 #[.val (.ref a1)] [(.ref a1), (.long (0 : Int64)), (.ref a1)])) rfl rfl (hb hby d16_16)
  obtain ⟨T4, h4, X4, e4, W4, st4⟩ := putF X3 hx hZ hown (host := "") (Or.inl (hw _ (List.mem_of_getElem? (i := 132) rfl))) Via.refl e3 hf6 hf0 (Or.inl (hw _ (List.mem_of_getElem? (i := 133) rfl))) (hw _ (List.mem_of_getElem? (i := 3) rfl)) (ty := .long) (by decide) rfl rfl (g := (mkF m 20 #[.val (.ref a1)] [(.long (0 : Int64)), (.ref a1)])) rfl rfl (hb hby d16_20)
  have fw4 : Fld Z h4 a1 "com/example/tillwire/tillwire/HttpFraming$BodyReader" "skipped" "J" (.long (0 : Int64)) := (hf6).same W4
  have f4_0 : Exa Z h4 a1 "com/example/tillwire/tillwire/HttpFraming$BodyReader" := (hf0).wr W4
  have f4_1 : Fld Z h4 a1 "com/example/tillwire/tillwire/HttpFraming$BodyReader" "kept" "Ljava/io/ByteArrayOutputStream;" (.ref ak) := (hf1).other W4 (Or.inr (slot_ne (Or.inr (hw _ (List.mem_of_getElem? (i := 32) rfl))) (Or.inl (hw _ (List.mem_of_getElem? (i := 133) rfl))) (by decide) (t := (.object "java/io/ByteArrayOutputStream")) (t' := .long) (by decide) (by decide)))
  have f4_2 : Fld Z h4 a1 "com/example/tillwire/tillwire/HttpFraming$BodyReader" "whole" "Z" (.int (1 : Int32)) := (hf2).other W4 (Or.inr (slot_ne (Or.inl (hw _ (List.mem_of_getElem? (i := 64) rfl))) (Or.inl (hw _ (List.mem_of_getElem? (i := 133) rfl))) (by decide) (t := .boolean) (t' := .long) (by decide) (by decide)))
  have f4_3 : Fld Z h4 a1 "com/example/tillwire/tillwire/HttpFraming$BodyReader" "chunked" "Z" (.int (0 : Int32)) := (hf3).other W4 (Or.inr (slot_ne (Or.inr (hw _ (List.mem_of_getElem? (i := 67) rfl))) (Or.inl (hw _ (List.mem_of_getElem? (i := 133) rfl))) (by decide) (t := .boolean) (t' := .long) (by decide) (by decide)))
  have f4_4 : Fld Z h4 a1 "com/example/tillwire/tillwire/HttpFraming$BodyReader" "part" "Lcom/example/tillwire/tillwire/HttpFraming$BodyReader$Part;" (.ref w_n4) := (hf4).other W4 (Or.inr (slot_ne (Or.inl (hw _ (List.mem_of_getElem? (i := 77) rfl))) (Or.inl (hw _ (List.mem_of_getElem? (i := 133) rfl))) (by decide) (t := (.object "com/example/tillwire/tillwire/HttpFraming$BodyReader$Part")) (t' := .long) (by decide) (by decide)))
  have f4_5 : Fld Z h4 a1 "com/example/tillwire/tillwire/HttpFraming$BodyReader" "left" "J" (.long (0 : Int64)) := (hf5).other W4 (Or.inr (slot_ne (Or.inl (hw _ (List.mem_of_getElem? (i := 127) rfl))) (Or.inl (hw _ (List.mem_of_getElem? (i := 133) rfl))) (by decide) (t := .long) (t' := .long) (by decide) (by decide)))
  have f4_6 : Fld Z h4 a1 "com/example/tillwire/tillwire/HttpFraming$BodyReader" "passed" "J" (.long (0 : Int64)) := (hf7).other W4 (Or.inr (slot_ne (Or.inl (hw _ (List.mem_of_getElem? (i := 123) rfl))) (Or.inl (hw _ (List.mem_of_getElem? (i := 133) rfl))) (by decide) (t := .long) (t' := .long) (by decide) (by decide)))
  have f4_7 : Fld Z h4 a1 "com/example/tillwire/tillwire/HttpFraming$BodyReader" "skip" "J" (.long qs) := (hf8).other W4 (Or.inr (slot_ne (Or.inr (hw _ (List.mem_of_getElem? (i := 71) rfl))) (Or.inl (hw _ (List.mem_of_getElem? (i := 133) rfl))) (by decide) (t := .long) (t' := .long) (by decide) (by decide)))
  have O4 := O0.wr W4 g_a1
  have N4 := Fr.snoc X4 N0 g_a1
  have K4 : Keep h0 h4 [a1] := (Keep.refl h0 [a1]).wr W4 (Or.inl (List.mem_of_getElem? (i := 0) rfl))
  obtain ⟨T5, X5, e5, st5⟩ := getF X4 hx hZ hown (host := "") (Or.inl (hw _ (List.mem_of_getElem? (i := 132) rfl))) Via.refl e4 fw4 (g := (mkF m 24 #[.val (.ref a1)] [(.ref a1)])) rfl rfl (hb hby d16_24)
  obtain ⟨T6, X6, e6, st6⟩ := getF X5 hx hZ hown (host := "") (Or.inl (hw _ (List.mem_of_getElem? (i := 70) rfl))) Via.refl e5 f4_7 (g := (mkF m 28 #[.val (.ref a1)] [(.ref a1), (.long (0 : Int64))])) rfl rfl (hb hby d16_28)
  obtain ⟨T7, h7, X7, e7, W7, st7⟩ := putFN X6 hx hZ hown (hw _ (List.mem_of_getElem? (i := 63) rfl)) Via.refl e6 f4_2 f4_0 (Or.inl (hw _ (List.mem_of_getElem? (i := 64) rfl))) (hw _ (List.mem_of_getElem? (i := 3) rfl)) (ty := .boolean) (v' := (.int (0 : Int32))) (by decide) rfl rfl (g := (mkF m 37 #[.val (.ref a1)] [(.int (0 : Int32)), (.ref a1)])) rfl rfl (hb hby d16_37)
  have fw7 : Fld Z h7 a1 "com/example/tillwire/tillwire/HttpFraming$BodyReader" "whole" "Z" (.int (0 : Int32)) := (f4_2).same W7
  have f7_0 : Exa Z h7 a1 "com/example/tillwire/tillwire/HttpFraming$BodyReader" := (f4_0).wr W7
  have f7_1 : Fld Z h7 a1 "com/example/tillwire/tillwire/HttpFraming$BodyReader" "kept" "Ljava/io/ByteArrayOutputStream;" (.ref ak) := (f4_1).other W7 (Or.inr (slot_ne (Or.inr (hw _ (List.mem_of_getElem? (i := 32) rfl))) (Or.inl (hw _ (List.mem_of_getElem? (i := 64) rfl))) (by decide) (t := (.object "java/io/ByteArrayOutputStream")) (t' := .boolean) (by decide) (by decide)))
  have f7_2 : Fld Z h7 a1 "com/example/tillwire/tillwire/HttpFraming$BodyReader" "chunked" "Z" (.int (0 : Int32)) := (f4_3).other W7 (Or.inr (slot_ne (Or.inr (hw _ (List.mem_of_getElem? (i := 67) rfl))) (Or.inl (hw _ (List.mem_of_getElem? (i := 64) rfl))) (by decide) (t := .boolean) (t' := .boolean) (by decide) (by decide)))
  have f7_3 : Fld Z h7 a1 "com/example/tillwire/tillwire/HttpFraming$BodyReader" "part" "Lcom/example/tillwire/tillwire/HttpFraming$BodyReader$Part;" (.ref w_n4) := (f4_4).other W7 (Or.inr (slot_ne (Or.inl (hw _ (List.mem_of_getElem? (i := 77) rfl))) (Or.inl (hw _ (List.mem_of_getElem? (i := 64) rfl))) (by decide) (t := (.object "com/example/tillwire/tillwire/HttpFraming$BodyReader$Part")) (t' := .boolean) (by decide) (by decide)))
  have f7_4 : Fld Z h7 a1 "com/example/tillwire/tillwire/HttpFraming$BodyReader" "left" "J" (.long (0 : Int64)) := (f4_5).other W7 (Or.inr (slot_ne (Or.inl (hw _ (List.mem_of_getElem? (i := 127) rfl))) (Or.inl (hw _ (List.mem_of_getElem? (i := 64) rfl))) (by decide) (t := .long) (t' := .boolean) (by decide) (by decide)))
  have f7_5 : Fld Z h7 a1 "com/example/tillwire/tillwire/HttpFraming$BodyReader" "passed" "J" (.long (0 : Int64)) := (f4_6).other W7 (Or.inr (slot_ne (Or.inl (hw _ (List.mem_of_getElem? (i := 123) rfl))) (Or.inl (hw _ (List.mem_of_getElem? (i := 64) rfl))) (by decide) (t := .long) (t' := .boolean) (by decide) (by decide)))
  have f7_6 : Fld Z h7 a1 "com/example/tillwire/tillwire/HttpFraming$BodyReader" "skip" "J" (.long qs) := (f4_7).other W7 (Or.inr (slot_ne (Or.inr (hw _ (List.mem_of_getElem? (i := 71) rfl))) (Or.inl (hw _ (List.mem_of_getElem? (i := 64) rfl))) (by decide) (t := .long) (t' := .boolean) (by decide) (by decide)))
  have f7_7 : Fld Z h7 a1 "com/example/tillwire/tillwire/HttpFraming$BodyReader" "skipped" "J" (.long (0 : Int64)) := (fw4).other W7 (Or.inr (slot_ne (Or.inl (hw _ (List.mem_of_getElem? (i := 133) rfl))) (Or.inl (hw _ (List.mem_of_getElem? (i := 64) rfl))) (by decide) (t := .long) (t' := .boolean) (by decide) (by decide)))
  have O7 := O4.wr W7 g_a1
  have N7 := Fr.snoc X7 N4 g_a1
  have K7 : Keep h0 h7 [a1] := K4.wr W7 (Or.inl (List.mem_of_getElem? (i := 0) rfl))
  obtain ⟨T8, X8, e8, st8⟩ := getS2 X7 hx hZ hown (host := "") (Or.inl (hw _ (List.mem_of_getElem? (i := 83) rfl))) Via.refl e7 (S_n3.ext O7.2) (g := (mkF m 41 #[.val (.ref a1)] [(.ref a1)])) rfl (hb hby d16_41)
  obtain ⟨T9, h9, X9, e9, W9, st9⟩ := putF X8 hx hZ hown (host := "") (Or.inl (hw _ (List.mem_of_getElem? (i := 76) rfl))) Via.refl e8 f7_3 f7_0 (Or.inl (hw _ (List.mem_of_getElem? (i := 77) rfl))) (hw _ (List.mem_of_getElem? (i := 3) rfl)) (ty := (.object "com/example/tillwire/tillwire/HttpFraming$BodyReader$Part")) (by decide) rfl rfl (g := (mkF m 44 #[.val (.ref a1)] [(.ref w_n3), (.ref a1)])) rfl rfl (hb hby d16_44)
  have fw9 : Fld Z h9 a1 "com/example/tillwire/tillwire/HttpFraming$BodyReader" "part" "Lcom/example/tillwire/tillwire/HttpFraming$BodyReader$Part;" (.ref w_n3) := (f7_3).same W9
  have f9_0 : Exa Z h9 a1 "com/example/tillwire/tillwire/HttpFraming$BodyReader" := (f7_0).wr W9
  have f9_1 : Fld Z h9 a1 "com/example/tillwire/tillwire/HttpFraming$BodyReader" "kept" "Ljava/io/ByteArrayOutputStream;" (.ref ak) := (f7_1).other W9 (Or.inr (slot_ne (Or.inr (hw _ (List.mem_of_getElem? (i := 32) rfl))) (Or.inl (hw _ (List.mem_of_getElem? (i := 77) rfl))) (by decide) (t := (.object "java/io/ByteArrayOutputStream")) (t' := (.object "com/example/tillwire/tillwire/HttpFraming$BodyReader$Part")) (by decide) (by decide)))
  have f9_2 : Fld Z h9 a1 "com/example/tillwire/tillwire/HttpFraming$BodyReader" "chunked" "Z" (.int (0 : Int32)) := (f7_2).other W9 (Or.inr (slot_ne (Or.inr (hw _ (List.mem_of_getElem? (i := 67) rfl))) (Or.inl (hw _ (List.mem_of_getElem? (i := 77) rfl))) (by decide) (t := .boolean) (t' := (.object "com/example/tillwire/tillwire/HttpFraming$BodyReader$Part")) (by decide) (by decide)))
  have f9_3 : Fld Z h9 a1 "com/example/tillwire/tillwire/HttpFraming$BodyReader" "left" "J" (.long (0 : Int64)) := (f7_4).other W9 (Or.inr (slot_ne (Or.inl (hw _ (List.mem_of_getElem? (i := 127) rfl))) (Or.inl (hw _ (List.mem_of_getElem? (i := 77) rfl))) (by decide) (t := .long) (t' := (.object "com/example/tillwire/tillwire/HttpFraming$BodyReader$Part")) (by decide) (by decide)))
  have f9_4 : Fld Z h9 a1 "com/example/tillwire/tillwire/HttpFraming$BodyReader" "passed" "J" (.long (0 : Int64)) := (f7_5).other W9 (Or.inr (slot_ne (Or.inl (hw _ (List.mem_of_getElem? (i := 123) rfl))) (Or.inl (hw _ (List.mem_of_getElem? (i := 77) rfl))) (by decide) (t := .long) (t' := (.object "com/example/tillwire/tillwire/HttpFraming$BodyReader$Part")) (by decide) (by decide)))
  have f9_5 : Fld Z h9 a1 "com/example/tillwire/tillwire/HttpFraming$BodyReader" "skip" "J" (.long qs) := (f7_6).other W9 (Or.inr (slot_ne (Or.inr (hw _ (List.mem_of_getElem? (i := 71) rfl))) (Or.inl (hw _ (List.mem_of_getElem? (i := 77) rfl))) (by decide) (t := .long) (t' := (.object "com/example/tillwire/tillwire/HttpFraming$BodyReader$Part")) (by decide) (by decide)))
  have f9_6 : Fld Z h9 a1 "com/example/tillwire/tillwire/HttpFraming$BodyReader" "skipped" "J" (.long (0 : Int64)) := (f7_7).other W9 (Or.inr (slot_ne (Or.inl (hw _ (List.mem_of_getElem? (i := 133) rfl))) (Or.inl (hw _ (List.mem_of_getElem? (i := 77) rfl))) (by decide) (t := .long) (t' := (.object "com/example/tillwire/tillwire/HttpFraming$BodyReader$Part")) (by decide) (by decide)))
  have f9_7 : Fld Z h9 a1 "com/example/tillwire/tillwire/HttpFraming$BodyReader" "whole" "Z" (.int (0 : Int32)) := (fw7).other W9 (Or.inr (slot_ne (Or.inl (hw _ (List.mem_of_getElem? (i := 64) rfl))) (Or.inl (hw _ (List.mem_of_getElem? (i := 77) rfl))) (by decide) (t := .boolean) (t' := (.object "com/example/tillwire/tillwire/HttpFraming$BodyReader$Part")) (by decide) (by decide)))
  have O9 := O7.wr W9 g_a1
  have N9 := Fr.snoc X9 N7 g_a1
  have K9 : Keep h0 h9 [a1] := K7.wr W9 (Or.inl (List.mem_of_getElem? (i := 0) rfl))
  obtain ⟨fs, hr, hrun, hended, hW, hsame⟩ := X9.leave (v := none) (fun _ => rfl)
  refine ⟨_, _, pre0 _ ?_, hrun, hended, _, _, rfl, ?_, ⟨_, rfl⟩, hW, hsame.mono (by decide) (by decide)⟩
  · show Steps p.tables e below (s₁.setTop (mkF m 0 #[.val (.ref a1)] [])) _
    refine XS.aloadN X0.here hx rfl (hb hby d16_0) rfl rfl ?_
    show Steps p.tables e below (s₁.setTop (mkF m 1 #[.val (.ref a1)] [(.ref a1)])) _
    refine st1 _ ?_
    show Steps p.tables e below (T1.setTop (mkF m 4 #[.val (.ref a1)] [(.long (0 : Int64))])) _
    refine XS.lconst X1.here hx rfl (hb hby d16_4) ?_
    show Steps p.tables e below (T1.setTop (mkF m 5 #[.val (.ref a1)] [(.long (0 : Int64)), (.long (0 : Int64))])) _
    refine XS.lcmp X1.here hx rfl (hb hby d16_5) rfl ?_
    show Steps p.tables e below (T1.setTop (mkF m 6 #[.val (.ref a1)] [(.int (lcmpW (0 : Int64) (0 : Int64)))])) _
    rw [show (lcmpW (0 : Int64) (0 : Int64)) = (0 : Int32) from by decide]
    show Steps p.tables e below (T1.setTop (mkF m 6 #[.val (.ref a1)] [(.int (0 : Int32))])) _
    refine XS.ifYes X1.here hx rfl (pc0 := 6) (pc' := 10) rfl (hb hby d16_6) rfl ((if0 _ _).trans (flt ((by decide) : ¬ ((0 : Int32) < (0 : Int32)))).2.2.2) (by decide) (by decide) ?_
    show Steps p.tables e below (T1.setTop (mkF m 10 #[.val (.ref a1)] [])) _
    refine XS.aloadN X1.here hx rfl (hb hby d16_10) rfl rfl ?_
    show Steps p.tables e below (T1.setTop (mkF m 11 #[.val (.ref a1)] [(.ref a1)])) _
    refine XS.dup X1.here hx rfl (hb hby d16_11) rfl rfl ?_
    show Steps p.tables e below (T1.setTop (mkF m 12 #[.val (.ref a1)] [(.ref a1), (.ref a1)])) _
    refine st2 _ ?_
    show Steps p.tables e below (T2.setTop (mkF m 15 #[.val (.ref a1)] [(.long (0 : Int64)), (.ref a1)])) _
    refine XS.aloadN X2.here hx rfl (hb hby d16_15) rfl rfl ?_
    show Steps p.tables e below (T2.setTop (mkF m 16 #[.val (.ref a1)] [(.ref a1), (.long (0 : Int64)), (.ref a1)])) _
    refine st3 _ ?_
    show Steps p.tables e below (T3.setTop (mkF m 19 #[.val (.ref a1)] [(.long (0 : Int64)), (.long (0 : Int64)), (.ref a1)])) _
    refine XS.ladd X3.here hx rfl (hb hby d16_19) rfl ?_
    show Steps p.tables e below (T3.setTop (mkF m 20 #[.val (.ref a1)] [(.long ((0 : Int64) + (0 : Int64))), (.ref a1)])) _
    rw [show ((0 : Int64) + (0 : Int64)) = (0 : Int64) from by decide]
    show Steps p.tables e below (T3.setTop (mkF m 20 #[.val (.ref a1)] [(.long (0 : Int64)), (.ref a1)])) _
    refine st4 _ ?_
    show Steps p.tables e below (T4.setTop (mkF m 23 #[.val (.ref a1)] [])) _
    refine XS.aloadN X4.here hx rfl (hb hby d16_23) rfl rfl ?_
    show Steps p.tables e below (T4.setTop (mkF m 24 #[.val (.ref a1)] [(.ref a1)])) _
    refine st5 _ ?_
    show Steps p.tables e below (T5.setTop (mkF m 27 #[.val (.ref a1)] [(.long (0 : Int64))])) _
    refine XS.aloadN X5.here hx rfl (hb hby d16_27) rfl rfl ?_
    show Steps p.tables e below (T5.setTop (mkF m 28 #[.val (.ref a1)] [(.ref a1), (.long (0 : Int64))])) _
    refine st6 _ ?_
    show Steps p.tables e below (T6.setTop (mkF m 31 #[.val (.ref a1)] [(.long qs), (.long (0 : Int64))])) _
    refine XS.lcmp X6.here hx rfl (hb hby d16_31) rfl ?_
    show Steps p.tables e below (T6.setTop (mkF m 32 #[.val (.ref a1)] [(.int (lcmpW (0 : Int64) qs))])) _
    refine XS.ifNo X6.here hx rfl (hb hby d16_32) rfl ((if0 _ _).trans (tlt (xk : (0 : Int32) < (lcmpW (0 : Int64) qs))).2.2.2) ?_
    show Steps p.tables e below (T6.setTop (mkF m 35 #[.val (.ref a1)] [])) _
    refine XS.aloadN X6.here hx rfl (hb hby d16_35) rfl rfl ?_
    show Steps p.tables e below (T6.setTop (mkF m 36 #[.val (.ref a1)] [(.ref a1)])) _
    refine XS.iconst X6.here hx rfl (hb hby d16_36) ?_
    show Steps p.tables e below (T6.setTop (mkF m 37 #[.val (.ref a1)] [(.int (0 : Int32)), (.ref a1)])) _
    refine st7 _ ?_
    show Steps p.tables e below (T7.setTop (mkF m 40 #[.val (.ref a1)] [])) _
    refine XS.aloadN X7.here hx rfl (hb hby d16_40) rfl rfl ?_
    show Steps p.tables e below (T7.setTop (mkF m 41 #[.val (.ref a1)] [(.ref a1)])) _
    refine st8 _ ?_
    show Steps p.tables e below (T8.setTop (mkF m 44 #[.val (.ref a1)] [(.ref w_n3), (.ref a1)])) _
    refine st9 _ ?_
    show Steps p.tables e below (T9.setTop (mkF m 47 #[.val (.ref a1)] [])) _
    refine XS.goto X9.here hx rfl (pc0 := 47) (pc' := 69) rfl (hb hby d16_47) (by decide) (by decide) ?_
    show Steps p.tables e below (T9.setTop (mkF m 69 #[.val (.ref a1)] [])) _
    exact X9.returnOut hx Bd.returns (hb hby d16_69) hr
  · show QW (fun v h => v = none ∧ Keep h0 h [a1] ∧ Exa Z h a1 "com/example/tillwire/tillwire/HttpFraming$BodyReader" ∧ Fld Z h a1 "com/example/tillwire/tillwire/HttpFraming$BodyReader" "kept" "Ljava/io/ByteArrayOutputStream;" (.ref ak) ∧ Fld Z h a1 "com/example/tillwire/tillwire/HttpFraming$BodyReader" "whole" "Z" (.int (0 : Int32)) ∧ Fld Z h a1 "com/example/tillwire/tillwire/HttpFraming$BodyReader" "chunked" "Z" (.int (0 : Int32)) ∧ Fld Z h a1 "com/example/tillwire/tillwire/HttpFraming$BodyReader" "part" "Lcom/example/tillwire/tillwire/HttpFraming$BodyReader$Part;" (.ref w_n3)) n0 _ T9.heap _
    rw [e9]
    exact ⟨N9, ⟨rfl, K9, f9_0, f9_1, f9_7, f9_2, fw9⟩⟩
set_option maxRecDepth 65536 in
set_option maxHeartbeats 40000000 in
theorem rm_ek2 (l : Launch) (Z : State) (a0 : Array Value) (hw : ∀ d ∈ tables_1, d.before a0 Z = true) (ws : List Jvm.Cond) {w_n2 : Addr} {w_n3 : Addr} {w_n4 : Addr} {w_n1 : Addr} {v_n0 : Int32} (W : Wd Z w_n2 w_n3 w_n4 w_n1 v_n0) (a1 : Addr) (ak : Addr) (qs : Int64) (qp : Int64) (h0 : Heap) (n0 : Nat) (O0 : Old Z n0 h0) (xk : (0 : Int32) < (lcmpW ((0 : Int64) + qp) qs)) (g_a1 : n0 ≤ a1) (hf0 : Exa Z h0 a1 "com/example/tillwire/tillwire/HttpFraming$BodyReader") (hf1 : Fld Z h0 a1 "com/example/tillwire/tillwire/HttpFraming$BodyReader" "kept" "Ljava/io/ByteArrayOutputStream;" (.ref ak)) (hf2 : Fld Z h0 a1 "com/example/tillwire/tillwire/HttpFraming$BodyReader" "whole" "Z" (.int (1 : Int32))) (hf3 : Fld Z h0 a1 "com/example/tillwire/tillwire/HttpFraming$BodyReader" "chunked" "Z" (.int (0 : Int32))) (hf4 : Fld Z h0 a1 "com/example/tillwire/tillwire/HttpFraming$BodyReader" "part" "Lcom/example/tillwire/tillwire/HttpFraming$BodyReader$Part;" (.ref w_n4)) (hf5 : Fld Z h0 a1 "com/example/tillwire/tillwire/HttpFraming$BodyReader" "left" "J" (.long (0 : Int64))) (hf6 : Fld Z h0 a1 "com/example/tillwire/tillwire/HttpFraming$BodyReader" "skipped" "J" (.long (0 : Int64))) (hf7 : Fld Z h0 a1 "com/example/tillwire/tillwire/HttpFraming$BodyReader" "passed" "J" (.long qp)) (hf8 : Fld Z h0 a1 "com/example/tillwire/tillwire/HttpFraming$BodyReader" "skip" "J" (.long qs)) :
    MetFree l (⟨"com/example/tillwire/tillwire/HttpFraming$BodyReader", "endKept", "()V"⟩ : MethodName) (head1 (Jvm.Cond.code (⟨"com/example/tillwire/tillwire/HttpFraming$BodyReader", "endKept", "()V"⟩ : MethodName) prog_23_method_8_code 1 none :: ws) ({ frames := 0, cells := 0, slots := 0, locals := 0 } : Room)) (fun a U => a = #[(.ref a1)] ∧ Z.Warmed39 U.vm ∧ U.heap = h0) (fun _ _ _ _ _ => True) (fun _ U o U' => ∃ v L, o = .returned v ∧ QW (fun v h => v = none ∧ Keep h0 h [a1] ∧ Exa Z h a1 "com/example/tillwire/tillwire/HttpFraming$BodyReader" ∧ Fld Z h a1 "com/example/tillwire/tillwire/HttpFraming$BodyReader" "kept" "Ljava/io/ByteArrayOutputStream;" (.ref ak) ∧ Fld Z h a1 "com/example/tillwire/tillwire/HttpFraming$BodyReader" "whole" "Z" (.int (0 : Int32)) ∧ Fld Z h a1 "com/example/tillwire/tillwire/HttpFraming$BodyReader" "chunked" "Z" (.int (0 : Int32)) ∧ Fld Z h a1 "com/example/tillwire/tillwire/HttpFraming$BodyReader" "part" "Lcom/example/tillwire/tillwire/HttpFraming$BodyReader$Part;" (.ref w_n3)) n0 v U'.heap L ∧ FrameEnd U o U' L ({ frames := 0, cells := 0, slots := 0, locals := 0 } : Room).cells ({ frames := 0, cells := 0, slots := 0, locals := 0 } : Room).slots) := by
  have W' := W; obtain ⟨S_n2, E_n2, S_n3, E_n3, S_n4, E_n4, S_n1, E_n1, S_n0, N_n0, F_n2_ordinal, F_n3_ordinal⟩ := W'
  refine MetFree.of_bodySF (plainFor_of_name pn_16) hisR ?_
  intro p e s m args below meth c s₁ Bd hml0 hP hK
  obtain ⟨rfl, hZ, hh⟩ := hP
  have hx := Bd.exec
  have hby := Bd.bytes
  have hml : c.maxLocals = 1 := hml0
  have hown : s.vm.findClass "com/example/tillwire/tillwire/HttpFraming$BodyReader" = some m.cls := findClass_of_methodNamed Bd.named
  have hnm := (name_of_methodNamed Bd.named Bd.method).1
  have X0 : Stand p l e ({ frames := 0, cells := 0, slots := 0, locals := 0 } : Room) s m #[(.ref a1)] below meth c s₁ [] 0 0 := Stand.of_body Bd
  have e0 : s₁.heap = h0 := by rw [← hh, Bd.state]; rfl
  have N0 := Fr.nil n0
  have pre0 : ∀ t, Steps p.tables e below (s₁.setTop (mkF m 0 #[.val (.ref a1)] [])) t → Steps p.tables e below (s₁.setTop (entryFrame m #[(.ref a1)] 1)) t := fun t k => castTop (ef_16_9 m a1) k
  obtain ⟨T1, X1, e1, st1⟩ := getF X0 hx hZ hown (host := "") (Or.inl (hw _ (List.mem_of_getElem? (i := 126) rfl))) Via.refl e0 hf5 (g := (mkF m 1 #[.val (.ref a1)] [(.ref a1)])) rfl rfl (hb hby d16_1)
  obtain ⟨T2, X2, e2, st2⟩ := getF X1 hx hZ hown (host := "") (Or.inl (hw _ (List.mem_of_getElem? (i := 132) rfl))) Via.refl e1 hf6 (g := (mkF m 12 #[.val (.ref a1)] [(.ref a1), (.ref a1)])) rfl rfl (hb hby d16_12)
  obtain ⟨T3, X3, e3, st3⟩ := getF X2 hx hZ hown (host := "") (Or.inl (hw _ (List.mem_of_getElem? (i := 122) rfl))) Via.refl e2 hf7 (g := (mkF m 16 #[.val (.ref a1)] [(.ref a1), (.long (0 : Int64)), (.ref a1)])) rfl rfl (hb hby d16_16)
  obtain ⟨T4, h4, X4, e4, W4, st4⟩ := putF X3 hx hZ hown (host := "") (Or.inl (hw _ (List.mem_of_getElem? (i := 132) rfl))) Via.refl e3 hf6 hf0 (Or.inl (hw _ (List.mem_of_getElem? (i := 133) rfl))) (hw _ (List.mem_of_getElem? (i := 3) rfl)) (ty := .long) (by decide) rfl rfl (g := (mkF m 20 #[.val (.ref a1)] [(.long ((0 : Int64) + qp)), (.ref a1)])) rfl rfl (hb hby d16_20)
  have fw4 : Fld Z h4 a1 "com/example/tillwire/tillwire/HttpFraming$BodyReader" "skipped" "J" (.long ((0 : Int64) + qp)) := (hf6).same W4
  have f4_0 : Exa Z h4 a1 "com/example/tillwire/tillwire/HttpFraming$BodyReader" := (hf0).wr W4
  have f4_1 : Fld Z h4 a1 "com/example/tillwire/tillwire/HttpFraming$BodyReader" "kept" "Ljava/io/ByteArrayOutputStream;" (.ref ak) := (hf1).other W4 (Or.inr (slot_ne (Or.inr (hw _ (List.mem_of_getElem? (i := 32) rfl))) (Or.inl (hw _ (List.mem_of_getElem? (i := 133) rfl))) (by decide) (t := (.object "java/io/ByteArrayOutputStream")) (t' := .long) (by decide) (by decide)))
  have f4_2 : Fld Z h4 a1 "com/example/tillwire/tillwire/HttpFraming$BodyReader" "whole" "Z" (.int (1 : Int32)) := (hf2).other W4 (Or.inr (slot_ne (Or.inl (hw _ (List.mem_of_getElem? (i := 64) rfl))) (Or.inl (hw _ (List.mem_of_getElem? (i := 133) rfl))) (by decide) (t := .boolean) (t' := .long) (by decide) (by decide)))
  have f4_3 : Fld Z h4 a1 "com/example/tillwire/tillwire/HttpFraming$BodyReader" "chunked" "Z" (.int (0 : Int32)) := (hf3).other W4 (Or.inr (slot_ne (Or.inr (hw _ (List.mem_of_getElem? (i := 67) rfl))) (Or.inl (hw _ (List.mem_of_getElem? (i := 133) rfl))) (by decide) (t := .boolean) (t' := .long) (by decide) (by decide)))
  have f4_4 : Fld Z h4 a1 "com/example/tillwire/tillwire/HttpFraming$BodyReader" "part" "Lcom/example/tillwire/tillwire/HttpFraming$BodyReader$Part;" (.ref w_n4) := (hf4).other W4 (Or.inr (slot_ne (Or.inl (hw _ (List.mem_of_getElem? (i := 77) rfl))) (Or.inl (hw _ (List.mem_of_getElem? (i := 133) rfl))) (by decide) (t := (.object "com/example/tillwire/tillwire/HttpFraming$BodyReader$Part")) (t' := .long) (by decide) (by decide)))
  have f4_5 : Fld Z h4 a1 "com/example/tillwire/tillwire/HttpFraming$BodyReader" "left" "J" (.long (0 : Int64)) := (hf5).other W4 (Or.inr (slot_ne (Or.inl (hw _ (List.mem_of_getElem? (i := 127) rfl))) (Or.inl (hw _ (List.mem_of_getElem? (i := 133) rfl))) (by decide) (t := .long) (t' := .long) (by decide) (by decide)))
  have f4_6 : Fld Z h4 a1 "com/example/tillwire/tillwire/HttpFraming$BodyReader" "passed" "J" (.long qp) := (hf7).other W4 (Or.inr (slot_ne (Or.inl (hw _ (List.mem_of_getElem? (i := 123) rfl))) (Or.inl (hw _ (List.mem_of_getElem? (i := 133) rfl))) (by decide) (t := .long) (t' := .long) (by decide) (by decide)))
  have f4_7 : Fld Z h4 a1 "com/example/tillwire/tillwire/HttpFraming$BodyReader" "skip" "J" (.long qs) := (hf8).other W4 (Or.inr (slot_ne (Or.inr (hw _ (List.mem_of_getElem? (i := 71) rfl))) (Or.inl (hw _ (List.mem_of_getElem? (i := 133) rfl))) (by decide) (t := .long) (t' := .long) (by decide) (by decide)))
  have O4 := O0.wr W4 g_a1
  have N4 := Fr.snoc X4 N0 g_a1
  have K4 : Keep h0 h4 [a1] := (Keep.refl h0 [a1]).wr W4 (Or.inl (List.mem_of_getElem? (i := 0) rfl))
  obtain ⟨T5, X5, e5, st5⟩ := getF X4 hx hZ hown (host := "") (Or.inl (hw _ (List.mem_of_getElem? (i := 132) rfl))) Via.refl e4 fw4 (g := (mkF m 24 #[.val (.ref a1)] [(.ref a1)])) rfl rfl (hb hby d16_24)
  obtain ⟨T6, X6, e6, st6⟩ := getF X5 hx hZ hown (host := "") (Or.inl (hw _ (List.mem_of_getElem? (i := 70) rfl))) Via.refl e5 f4_7 (g := (mkF m 28 #[.val (.ref a1)] [(.ref a1), (.long ((0 : Int64) + qp))])) rfl rfl (hb hby d16_28)
  obtain ⟨T7, h7, X7, e7, W7, st7⟩ := putFN X6 hx hZ hown (hw _ (List.mem_of_getElem? (i := 63) rfl)) Via.refl e6 f4_2 f4_0 (Or.inl (hw _ (List.mem_of_getElem? (i := 64) rfl))) (hw _ (List.mem_of_getElem? (i := 3) rfl)) (ty := .boolean) (v' := (.int (0 : Int32))) (by decide) rfl rfl (g := (mkF m 37 #[.val (.ref a1)] [(.int (0 : Int32)), (.ref a1)])) rfl rfl (hb hby d16_37)
  have fw7 : Fld Z h7 a1 "com/example/tillwire/tillwire/HttpFraming$BodyReader" "whole" "Z" (.int (0 : Int32)) := (f4_2).same W7
  have f7_0 : Exa Z h7 a1 "com/example/tillwire/tillwire/HttpFraming$BodyReader" := (f4_0).wr W7
  have f7_1 : Fld Z h7 a1 "com/example/tillwire/tillwire/HttpFraming$BodyReader" "kept" "Ljava/io/ByteArrayOutputStream;" (.ref ak) := (f4_1).other W7 (Or.inr (slot_ne (Or.inr (hw _ (List.mem_of_getElem? (i := 32) rfl))) (Or.inl (hw _ (List.mem_of_getElem? (i := 64) rfl))) (by decide) (t := (.object "java/io/ByteArrayOutputStream")) (t' := .boolean) (by decide) (by decide)))
  have f7_2 : Fld Z h7 a1 "com/example/tillwire/tillwire/HttpFraming$BodyReader" "chunked" "Z" (.int (0 : Int32)) := (f4_3).other W7 (Or.inr (slot_ne (Or.inr (hw _ (List.mem_of_getElem? (i := 67) rfl))) (Or.inl (hw _ (List.mem_of_getElem? (i := 64) rfl))) (by decide) (t := .boolean) (t' := .boolean) (by decide) (by decide)))
  have f7_3 : Fld Z h7 a1 "com/example/tillwire/tillwire/HttpFraming$BodyReader" "part" "Lcom/example/tillwire/tillwire/HttpFraming$BodyReader$Part;" (.ref w_n4) := (f4_4).other W7 (Or.inr (slot_ne (Or.inl (hw _ (List.mem_of_getElem? (i := 77) rfl))) (Or.inl (hw _ (List.mem_of_getElem? (i := 64) rfl))) (by decide) (t := (.object "com/example/tillwire/tillwire/HttpFraming$BodyReader$Part")) (t' := .boolean) (by decide) (by decide)))
  have f7_4 : Fld Z h7 a1 "com/example/tillwire/tillwire/HttpFraming$BodyReader" "left" "J" (.long (0 : Int64)) := (f4_5).other W7 (Or.inr (slot_ne (Or.inl (hw _ (List.mem_of_getElem? (i := 127) rfl))) (Or.inl (hw _ (List.mem_of_getElem? (i := 64) rfl))) (by decide) (t := .long) (t' := .boolean) (by decide) (by decide)))
  have f7_5 : Fld Z h7 a1 "com/example/tillwire/tillwire/HttpFraming$BodyReader" "passed" "J" (.long qp) := (f4_6).other W7 (Or.inr (slot_ne (Or.inl (hw _ (List.mem_of_getElem? (i := 123) rfl))) (Or.inl (hw _ (List.mem_of_getElem? (i := 64) rfl))) (by decide) (t := .long) (t' := .boolean) (by decide) (by decide)))
  have f7_6 : Fld Z h7 a1 "com/example/tillwire/tillwire/HttpFraming$BodyReader" "skip" "J" (.long qs) := (f4_7).other W7 (Or.inr (slot_ne (Or.inr (hw _ (List.mem_of_getElem? (i := 71) rfl))) (Or.inl (hw _ (List.mem_of_getElem? (i := 64) rfl))) (by decide) (t := .long) (t' := .boolean) (by decide) (by decide)))
  have f7_7 : Fld Z h7 a1 "com/example/tillwire/tillwire/HttpFraming$BodyReader" "skipped" "J" (.long ((0 : Int64) + qp)) := (fw4).other W7 (Or.inr (slot_ne (Or.inl (hw _ (List.mem_of_getElem? (i := 133) rfl))) (Or.inl (hw _ (List.mem_of_getElem? (i := 64) rfl))) (by decide) (t := .long) (t' := .boolean) (by decide) (by decide)))
  have O7 := O4.wr W7 g_a1
  have N7 := Fr.snoc X7 N4 g_a1
  have K7 : Keep h0 h7 [a1] := K4.wr W7 (Or.inl (List.mem_of_getElem? (i := 0) rfl))
  obtain ⟨T8, X8, e8, st8⟩ := getS2 X7 hx hZ hown (host := "") (Or.inl (hw _ (List.mem_of_getElem? (i := 83) rfl))) Via.refl e7 (S_n3.ext O7.2) (g := (mkF m 41 #[.val (.ref a1)] [(.ref a1)])) rfl (hb hby d16_41)
  obtain ⟨T9, h9, X9, e9, W9, st9⟩ := putF X8 hx hZ hown (host := "") (Or.inl (hw _ (List.mem_of_getElem? (i := 76) rfl))) Via.refl e8 f7_3 f7_0 (Or.inl (hw _ (List.mem_of_getElem? (i := 77) rfl))) (hw _ (List.mem_of_getElem? (i := 3) rfl)) (ty := (.object "com/example/tillwire/tillwire/HttpFraming$BodyReader$Part")) (by decide) rfl rfl (g := (mkF m 44 #[.val (.ref a1)] [(.ref w_n3), (.ref a1)])) rfl rfl (hb hby d16_44)
  have fw9 : Fld Z h9 a1 "com/example/tillwire/tillwire/HttpFraming$BodyReader" "part" "Lcom/example/tillwire/tillwire/HttpFraming$BodyReader$Part;" (.ref w_n3) := (f7_3).same W9
  have f9_0 : Exa Z h9 a1 "com/example/tillwire/tillwire/HttpFraming$BodyReader" := (f7_0).wr W9
  have f9_1 : Fld Z h9 a1 "com/example/tillwire/tillwire/HttpFraming$BodyReader" "kept" "Ljava/io/ByteArrayOutputStream;" (.ref ak) := (f7_1).other W9 (Or.inr (slot_ne (Or.inr (hw _ (List.mem_of_getElem? (i := 32) rfl))) (Or.inl (hw _ (List.mem_of_getElem? (i := 77) rfl))) (by decide) (t := (.object "java/io/ByteArrayOutputStream")) (t' := (.object "com/example/tillwire/tillwire/HttpFraming$BodyReader$Part")) (by decide) (by decide)))
  have f9_2 : Fld Z h9 a1 "com/example/tillwire/tillwire/HttpFraming$BodyReader" "chunked" "Z" (.int (0 : Int32)) := (f7_2).other W9 (Or.inr (slot_ne (Or.inr (hw _ (List.mem_of_getElem? (i := 67) rfl))) (Or.inl (hw _ (List.mem_of_getElem? (i := 77) rfl))) (by decide) (t := .boolean) (t' := (.object "com/example/tillwire/tillwire/HttpFraming$BodyReader$Part")) (by decide) (by decide)))
  have f9_3 : Fld Z h9 a1 "com/example/tillwire/tillwire/HttpFraming$BodyReader" "left" "J" (.long (0 : Int64)) := (f7_4).other W9 (Or.inr (slot_ne (Or.inl (hw _ (List.mem_of_getElem? (i := 127) rfl))) (Or.inl (hw _ (List.mem_of_getElem? (i := 77) rfl))) (by decide) (t := .long) (t' := (.object "com/example/tillwire/tillwire/HttpFraming$BodyReader$Part")) (by decide) (by decide)))
  have f9_4 : Fld Z h9 a1 "com/example/tillwire/tillwire/HttpFraming$BodyReader" "passed" "J" (.long qp) := (f7_5).other W9 (Or.inr (slot_ne (Or.inl (hw _ (List.mem_of_getElem? (i := 123) rfl))) (Or.inl (hw _ (List.mem_of_getElem? (i := 77) rfl))) (by decide) (t := .long) (t' := (.object "com/example/tillwire/tillwire/HttpFraming$BodyReader$Part")) (by decide) (by decide)))
  have f9_5 : Fld Z h9 a1 "com/example/tillwire/tillwire/HttpFraming$BodyReader" "skip" "J" (.long qs) := (f7_6).other W9 (Or.inr (slot_ne (Or.inr (hw _ (List.mem_of_getElem? (i := 71) rfl))) (Or.inl (hw _ (List.mem_of_getElem? (i := 77) rfl))) (by decide) (t := .long) (t' := (.object "com/example/tillwire/tillwire/HttpFraming$BodyReader$Part")) (by decide) (by decide)))
  have f9_6 : Fld Z h9 a1 "com/example/tillwire/tillwire/HttpFraming$BodyReader" "skipped" "J" (.long ((0 : Int64) + qp)) := (f7_7).other W9 (Or.inr (slot_ne (Or.inl (hw _ (List.mem_of_getElem? (i := 133) rfl))) (Or.inl (hw _ (List.mem_of_getElem? (i := 77) rfl))) (by decide) (t := .long) (t' := (.object "com/example/tillwire/tillwire/HttpFraming$BodyReader$Part")) (by decide) (by decide)))
  have f9_7 : Fld Z h9 a1 "com/example/tillwire/tillwire/HttpFraming$BodyReader" "whole" "Z" (.int (0 : Int32)) := (fw7).other W9 (Or.inr (slot_ne (Or.inl (hw _ (List.mem_of_getElem? (i := 64) rfl))) (Or.inl (hw _ (List.mem_of_getElem? (i := 77) rfl))) (by decide) (t := .boolean) (t' := (.object "com/example/tillwire/tillwire/HttpFraming$BodyReader$Part")) (by decide) (by decide)))
  have O9 := O7.wr W9 g_a1
  have N9 := Fr.snoc X9 N7 g_a1
  have K9 : Keep h0 h9 [a1] := K7.wr W9 (Or.inl (List.mem_of_getElem? (i := 0) rfl))
  obtain ⟨fs, hr, hrun, hended, hW, hsame⟩ := X9.leave (v := none) (fun _ => rfl)
  refine ⟨_, _, pre0 _ ?_, hrun, hended, _, _, rfl, ?_, ⟨_, rfl⟩, hW, hsame.mono (by decide) (by decide)⟩
  · show Steps p.tables e below (s₁.setTop (mkF m 0 #[.val (.ref a1)] [])) _
    refine XS.aloadN X0.here hx rfl (hb hby d16_0) rfl rfl ?_
    show Steps p.tables e below (s₁.setTop (mkF m 1 #[.val (.ref a1)] [(.ref a1)])) _
    refine st1 _ ?_
    show Steps p.tables e below (T1.setTop (mkF m 4 #[.val (.ref a1)] [(.long (0 : Int64))])) _
    refine XS.lconst X1.here hx rfl (hb hby d16_4) ?_
    show Steps p.tables e below (T1.setTop (mkF m 5 #[.val (.ref a1)] [(.long (0 : Int64)), (.long (0 : Int64))])) _
    refine XS.lcmp X1.here hx rfl (hb hby d16_5) rfl ?_
    show Steps p.tables e below (T1.setTop (mkF m 6 #[.val (.ref a1)] [(.int (lcmpW (0 : Int64) (0 : Int64)))])) _
    rw [show (lcmpW (0 : Int64) (0 : Int64)) = (0 : Int32) from by decide]
    show Steps p.tables e below (T1.setTop (mkF m 6 #[.val (.ref a1)] [(.int (0 : Int32))])) _
    refine XS.ifYes X1.here hx rfl (pc0 := 6) (pc' := 10) rfl (hb hby d16_6) rfl ((if0 _ _).trans (flt ((by decide) : ¬ ((0 : Int32) < (0 : Int32)))).2.2.2) (by decide) (by decide) ?_
    show Steps p.tables e below (T1.setTop (mkF m 10 #[.val (.ref a1)] [])) _
    refine XS.aloadN X1.here hx rfl (hb hby d16_10) rfl rfl ?_
    show Steps p.tables e below (T1.setTop (mkF m 11 #[.val (.ref a1)] [(.ref a1)])) _
    refine XS.dup X1.here hx rfl (hb hby d16_11) rfl rfl ?_
    show Steps p.tables e below (T1.setTop (mkF m 12 #[.val (.ref a1)] [(.ref a1), (.ref a1)])) _
    refine st2 _ ?_
    show Steps p.tables e below (T2.setTop (mkF m 15 #[.val (.ref a1)] [(.long (0 : Int64)), (.ref a1)])) _
    refine XS.aloadN X2.here hx rfl (hb hby d16_15) rfl rfl ?_
    show Steps p.tables e below (T2.setTop (mkF m 16 #[.val (.ref a1)] [(.ref a1), (.long (0 : Int64)), (.ref a1)])) _
    refine st3 _ ?_
    show Steps p.tables e below (T3.setTop (mkF m 19 #[.val (.ref a1)] [(.long qp), (.long (0 : Int64)), (.ref a1)])) _
    refine XS.ladd X3.here hx rfl (hb hby d16_19) rfl ?_
    show Steps p.tables e below (T3.setTop (mkF m 20 #[.val (.ref a1)] [(.long ((0 : Int64) + qp)), (.ref a1)])) _
    refine st4 _ ?_
    show Steps p.tables e below (T4.setTop (mkF m 23 #[.val (.ref a1)] [])) _
    refine XS.aloadN X4.here hx rfl (hb hby d16_23) rfl rfl ?_
    show Steps p.tables e below (T4.setTop (mkF m 24 #[.val (.ref a1)] [(.ref a1)])) _
    refine st5 _ ?_
    show Steps p.tables e below (T5.setTop (mkF m 27 #[.val (.ref a1)] [(.long ((0 : Int64) + qp))])) _
    refine XS.aloadN X5.here hx rfl (hb hby d16_27) rfl rfl ?_
    show Steps p.tables e below (T5.setTop (mkF m 28 #[.val (.ref a1)] [(.ref a1), (.long ((0 : Int64) + qp))])) _
    refine st6 _ ?_
    show Steps p.tables e below (T6.setTop (mkF m 31 #[.val (.ref a1)] [(.long qs), (.long ((0 : Int64) + qp))])) _
    refine XS.lcmp X6.here hx rfl (hb hby d16_31) rfl ?_
    show Steps p.tables e below (T6.setTop (mkF m 32 #[.val (.ref a1)] [(.int (lcmpW ((0 : Int64) + qp) qs))])) _
    refine XS.ifNo X6.here hx rfl (hb hby d16_32) rfl ((if0 _ _).trans (tlt (xk : (0 : Int32) < (lcmpW ((0 : Int64) + qp) qs))).2.2.2) ?_
    show Steps p.tables e below (T6.setTop (mkF m 35 #[.val (.ref a1)] [])) _
    refine XS.aloadN X6.here hx rfl (hb hby d16_35) rfl rfl ?_
    show Steps p.tables e below (T6.setTop (mkF m 36 #[.val (.ref a1)] [(.ref a1)])) _
    refine XS.iconst X6.here hx rfl (hb hby d16_36) ?_
    show Steps p.tables e below (T6.setTop (mkF m 37 #[.val (.ref a1)] [(.int (0 : Int32)), (.ref a1)])) _
    refine st7 _ ?_
    show Steps p.tables e below (T7.setTop (mkF m 40 #[.val (.ref a1)] [])) _
    refine XS.aloadN X7.here hx rfl (hb hby d16_40) rfl rfl ?_
    show Steps p.tables e below (T7.setTop (mkF m 41 #[.val (.ref a1)] [(.ref a1)])) _
    refine st8 _ ?_
    show Steps p.tables e below (T8.setTop (mkF m 44 #[.val (.ref a1)] [(.ref w_n3), (.ref a1)])) _
    refine st9 _ ?_
    show Steps p.tables e below (T9.setTop (mkF m 47 #[.val (.ref a1)] [])) _
    refine XS.goto X9.here hx rfl (pc0 := 47) (pc' := 69) rfl (hb hby d16_47) (by decide) (by decide) ?_
    show Steps p.tables e below (T9.setTop (mkF m 69 #[.val (.ref a1)] [])) _
    exact X9.returnOut hx Bd.returns (hb hby d16_69) hr
  · show QW (fun v h => v = none ∧ Keep h0 h [a1] ∧ Exa Z h a1 "com/example/tillwire/tillwire/HttpFraming$BodyReader" ∧ Fld Z h a1 "com/example/tillwire/tillwire/HttpFraming$BodyReader" "kept" "Ljava/io/ByteArrayOutputStream;" (.ref ak) ∧ Fld Z h a1 "com/example/tillwire/tillwire/HttpFraming$BodyReader" "whole" "Z" (.int (0 : Int32)) ∧ Fld Z h a1 "com/example/tillwire/tillwire/HttpFraming$BodyReader" "chunked" "Z" (.int (0 : Int32)) ∧ Fld Z h a1 "com/example/tillwire/tillwire/HttpFraming$BodyReader" "part" "Lcom/example/tillwire/tillwire/HttpFraming$BodyReader$Part;" (.ref w_n3)) n0 _ T9.heap _
    rw [e9]
    exact ⟨N9, ⟨rfl, K9, f9_0, f9_1, f9_7, f9_2, fw9⟩⟩
theorem d1_0 : decode prog_23_method_1_code 0 = .ok (.aload_n 0, 1) := by decide +kernel
theorem d1_1 : decode prog_23_method_1_code 1 = .ok (.invokespecial 3, 3) := by decide +kernel
theorem d1_4 : decode prog_23_method_1_code 4 = .ok (.aload_n 0, 1) := by decide +kernel
theorem d1_5 : decode prog_23_method_1_code 5 = .ok (.new 9, 3) := by decide +kernel
theorem d1_8 : decode prog_23_method_1_code 8 = .ok (.dup, 1) := by decide +kernel
theorem d1_9 : decode prog_23_method_1_code 9 = .ok (.invokespecial 11, 3) := by decide +kernel
theorem d1_12 : decode prog_23_method_1_code 12 = .ok (.putfield 12, 3) := by decide +kernel
theorem d1_15 : decode prog_23_method_1_code 15 = .ok (.aload_n 0, 1) := by decide +kernel
theorem d1_16 : decode prog_23_method_1_code 16 = .ok (.new 18, 3) := by decide +kernel
theorem d1_19 : decode prog_23_method_1_code 19 = .ok (.dup, 1) := by decide +kernel
theorem d1_20 : decode prog_23_method_1_code 20 = .ok (.invokespecial 20, 3) := by decide +kernel
theorem d1_23 : decode prog_23_method_1_code 23 = .ok (.putfield 21, 3) := by decide +kernel
theorem d1_26 : decode prog_23_method_1_code 26 = .ok (.aload_n 0, 1) := by decide +kernel
theorem d1_27 : decode prog_23_method_1_code 27 = .ok (.iconst 1, 1) := by decide +kernel
theorem d1_28 : decode prog_23_method_1_code 28 = .ok (.putfield 25, 3) := by decide +kernel
theorem d1_31 : decode prog_23_method_1_code 31 = .ok (.aload_n 0, 1) := by decide +kernel
theorem d1_32 : decode prog_23_method_1_code 32 = .ok (.lload_n 1, 1) := by decide +kernel
theorem d1_33 : decode prog_23_method_1_code 33 = .ok (.ldc2_w 29, 3) := by decide +kernel
theorem d1_36 : decode prog_23_method_1_code 36 = .ok (.lcmp, 1) := by decide +kernel
theorem d1_37 : decode prog_23_method_1_code 37 = .ok (.ifCond .ne 7, 3) := by decide +kernel
theorem d1_44 : decode prog_23_method_1_code 44 = .ok (.iconst 0, 1) := by decide +kernel
theorem d1_45 : decode prog_23_method_1_code 45 = .ok (.putfield 31, 3) := by decide +kernel
theorem d1_48 : decode prog_23_method_1_code 48 = .ok (.aload_n 0, 1) := by decide +kernel
theorem d1_49 : decode prog_23_method_1_code 49 = .ok (.iload_n 3, 1) := by decide +kernel
theorem d1_50 : decode prog_23_method_1_code 50 = .ok (.putfield 34, 3) := by decide +kernel
theorem d1_53 : decode prog_23_method_1_code 53 = .ok (.aload_n 0, 1) := by decide +kernel
theorem d1_54 : decode prog_23_method_1_code 54 = .ok (.lload 4, 2) := by decide +kernel
theorem d1_56 : decode prog_23_method_1_code 56 = .ok (.putfield 38, 3) := by decide +kernel
theorem d1_59 : decode prog_23_method_1_code 59 = .ok (.aload_n 0, 1) := by decide +kernel
theorem d1_60 : decode prog_23_method_1_code 60 = .ok (.getfield 31, 3) := by decide +kernel
theorem d1_63 : decode prog_23_method_1_code 63 = .ok (.ifCond .eq 16, 3) := by decide +kernel
theorem d1_79 : decode prog_23_method_1_code 79 = .ok (.lload_n 1, 1) := by decide +kernel
theorem d1_80 : decode prog_23_method_1_code 80 = .ok (.ldc2_w 52, 3) := by decide +kernel
theorem d1_83 : decode prog_23_method_1_code 83 = .ok (.lcmp, 1) := by decide +kernel
theorem d1_84 : decode prog_23_method_1_code 84 = .ok (.ifCond .ne 13, 3) := by decide +kernel
theorem d1_87 : decode prog_23_method_1_code 87 = .ok (.aload_n 0, 1) := by decide +kernel
theorem d1_88 : decode prog_23_method_1_code 88 = .ok (.getstatic 54, 3) := by decide +kernel
theorem d1_91 : decode prog_23_method_1_code 91 = .ok (.putfield 57, 3) := by decide +kernel
theorem d1_94 : decode prog_23_method_1_code 94 = .ok (.goto 36, 3) := by decide +kernel
theorem d1_130 : decode prog_23_method_1_code 130 = .ok (.return_, 1) := by decide +kernel
theorem ef_1_10 (m : MethodId) (x0 : Addr) (x1 : Int64) (x2 : Int32) (x3 : Int64) : entryFrame m #[(.ref x0), (.long x1), (.int x2), (.long x3)] 8 = mkF m 0 #[.val (.ref x0), .val (.long x1), .second, .val (.int x2), .val (.long x3), .second, .unset, .unset] [] := by first | (simp [entryFrame, mkF, argsToLocals, Value.category]; done) | rfl
theorem pn_1 : plainName "com/example/tillwire/tillwire/HttpFraming$BodyReader" = true := by first | (simp [plainName, overriddenIn]; done) | decide +kernel
set_option maxRecDepth 65536 in
set_option maxHeartbeats 40000000 in
theorem rm_n0 (l : Launch) (Z : State) (a0 : Array Value) (hw : ∀ d ∈ tables_1, d.before a0 Z = true) (ws : List Jvm.Cond) {w_n2 : Addr} {w_n3 : Addr} {w_n4 : Addr} {w_n1 : Addr} {v_n0 : Int32} (W : Wd Z w_n2 w_n3 w_n4 w_n1 v_n0) (a1 : Addr) (p3 : Int32) (q4 : Int64) (h0 : Heap) (n0 : Nat) (O0 : Old Z n0 h0) (g_a1 : n0 ≤ a1) (hf0 : Exa Z h0 a1 "com/example/tillwire/tillwire/HttpFraming$BodyReader") (hf1 : Fld Z h0 a1 "com/example/tillwire/tillwire/HttpFraming$BodyReader" "kept" "Ljava/io/ByteArrayOutputStream;" .null) (hf2 : Fld Z h0 a1 "com/example/tillwire/tillwire/HttpFraming$BodyReader" "line" "Lcom/example/tillwire/tillwire/HttpFraming$Line;" .null) (hf3 : Fld Z h0 a1 "com/example/tillwire/tillwire/HttpFraming$BodyReader" "whole" "Z" (.int (0 : Int32))) (hf4 : Fld Z h0 a1 "com/example/tillwire/tillwire/HttpFraming$BodyReader" "chunked" "Z" (.int (0 : Int32))) (hf5 : Fld Z h0 a1 "com/example/tillwire/tillwire/HttpFraming$BodyReader" "keep" "I" (.int (0 : Int32))) (hf6 : Fld Z h0 a1 "com/example/tillwire/tillwire/HttpFraming$BodyReader" "skip" "J" (.long (0 : Int64))) (hf7 : Fld Z h0 a1 "com/example/tillwire/tillwire/HttpFraming$BodyReader" "part" "Lcom/example/tillwire/tillwire/HttpFraming$BodyReader$Part;" .null) (hf8 : Fld Z h0 a1 "com/example/tillwire/tillwire/HttpFraming$BodyReader" "passed" "J" (.long (0 : Int64))) (hf9 : Fld Z h0 a1 "com/example/tillwire/tillwire/HttpFraming$BodyReader" "left" "J" (.long (0 : Int64))) (hf10 : Fld Z h0 a1 "com/example/tillwire/tillwire/HttpFraming$BodyReader" "skipped" "J" (.long (0 : Int64))) :
    MetFree l (⟨"com/example/tillwire/tillwire/HttpFraming$BodyReader", "<init>", "(JIJ)V"⟩ : MethodName) (head1 (Jvm.Cond.code (⟨"com/example/tillwire/tillwire/HttpFraming$BodyReader", "<init>", "(JIJ)V"⟩ : MethodName) prog_23_method_1_code 8 none :: ws) ({ frames := 4, cells := 5, slots := 56, locals := 53 } : Room)) (fun a U => a = #[(.ref a1), (.long (-2 : Int64)), (.int p3), (.long q4)] ∧ Z.Warmed39 U.vm ∧ U.heap = h0) (fun _ _ _ _ _ => True) (fun _ U o U' => ∃ v L, o = .returned v ∧ QW (fun v h => ∃ b2 : Addr, ∃ b3_b1_b2 : Addr, ∃ k3_k1_k2 : ClassId, v = none ∧ Keep h0 h [a1] ∧ n0 ≤ b2 ∧ h0.size ≤ b2 ∧ n0 ≤ b3_b1_b2 ∧ h0.size ≤ b3_b1_b2 ∧ Exa Z h a1 "com/example/tillwire/tillwire/HttpFraming$BodyReader" ∧ Fld Z h a1 "com/example/tillwire/tillwire/HttpFraming$BodyReader" "kept" "Ljava/io/ByteArrayOutputStream;" (.ref b2) ∧ Fld Z h a1 "com/example/tillwire/tillwire/HttpFraming$BodyReader" "whole" "Z" (.int (1 : Int32)) ∧ Fld Z h a1 "com/example/tillwire/tillwire/HttpFraming$BodyReader" "part" "Lcom/example/tillwire/tillwire/HttpFraming$BodyReader$Part;" (.ref w_n2) ∧ Exa Z h b2 "java/io/ByteArrayOutputStream" ∧ Unt h b2 ∧ Fld Z h b2 "java/io/ByteArrayOutputStream" "buf" "[B" (.ref b3_b1_b2) ∧ Fld Z h b2 "java/io/ByteArrayOutputStream" "count" "I" (.int (0 : Int32)) ∧ Exa Z h b3_b1_b2 "[B" ∧ Arv Z h b3_b1_b2 k3_k1_k2 .byte (32 : Int32) [] (.int (0 : Int32))) n0 v U'.heap L ∧ FrameEnd U o U' L ({ frames := 4, cells := 5, slots := 56, locals := 53 } : Room).cells ({ frames := 4, cells := 5, slots := 56, locals := 53 } : Room).slots) := by
  have W' := W; obtain ⟨S_n2, E_n2, S_n3, E_n3, S_n4, E_n4, S_n1, E_n1, S_n0, N_n0, F_n2_ordinal, F_n3_ordinal⟩ := W'
  refine MetFree.of_bodySF (plainFor_of_name pn_1) hisR ?_
  intro p e s m args below meth c s₁ Bd hml0 hP hK
  obtain ⟨rfl, hZ, hh⟩ := hP
  have hx := Bd.exec
  have hby := Bd.bytes
  have hml : c.maxLocals = 8 := hml0
  have hown : s.vm.findClass "com/example/tillwire/tillwire/HttpFraming$BodyReader" = some m.cls := findClass_of_methodNamed Bd.named
  have hnm := (name_of_methodNamed Bd.named Bd.method).1
  have X0 : Stand p l e ({ frames := 4, cells := 5, slots := 56, locals := 53 } : Room) s m #[(.ref a1), (.long (-2 : Int64)), (.int p3), (.long q4)] below meth c s₁ [] 0 0 := Stand.of_body Bd
  have e0 : s₁.heap = h0 := by rw [← hh, Bd.state]; rfl
  have N0 := Fr.nil n0
  have pre0 : ∀ t, Steps p.tables e below (s₁.setTop (mkF m 0 #[.val (.ref a1), .val (.long (-2 : Int64)), .second, .val (.int p3), .val (.long q4), .second, .unset, .unset] [])) t → Steps p.tables e below (s₁.setTop (entryFrame m #[(.ref a1), (.long (-2 : Int64)), (.int p3), (.long q4)] 8)) t := fun t k => castTop (ef_1_10 m a1 (-2 : Int64) p3 q4) k
  obtain ⟨T1, X1, e1, st1⟩ := initO X0 hx hZ hown (hw _ (List.mem_of_getElem? (i := 8) rfl)) (hw _ (List.mem_of_getElem? (i := 9) rfl)) (hw _ (List.mem_of_getElem? (i := 10) rfl)) e0 (g := (mkF m 1 #[.val (.ref a1), .val (.long (-2 : Int64)), .second, .val (.int p3), .val (.long q4), .second, .unset, .unset] [(.ref a1)])) rfl (by rw [hml]; rfl) rfl (hb hby d1_1) (by decide) (W := 0) (by show 2 * 0 + _ ≤ _; exact Nat.le_of_eq rfl) (by decide)
  obtain ⟨T2, h2, X2, e2, E2, A2, D2, U2, st2⟩ := newO X1 hx hZ hown (hw _ (List.mem_of_getElem? (i := 11) rfl)) (hw _ (List.mem_of_getElem? (i := 12) rfl)) (hw _ (List.mem_of_getElem? (i := 13) rfl)) e1 (g := (mkF m 5 #[.val (.ref a1), .val (.long (-2 : Int64)), .second, .val (.int p3), .val (.long q4), .second, .unset, .unset] [(.ref a1)])) rfl (hb hby d1_5) (by decide) (by decide)
  obtain ⟨b2, g2⟩ : ∃ z, z = h0.size := ⟨_, rfl⟩
  rw [← g2] at A2 D2 U2 st2
  have lt_a1_b2 : a1 < h0.size := (hf0).lt
  have g_b2 : n0 ≤ b2 := by rw [g2]; exact O0.1 ▸ O0.2.1
  have sz_b2 : h0.size ≤ b2 := by rw [g2]; exact (Keep.refl h0 [a1]).1
  have f2_0 : Exa Z h2 a1 "com/example/tillwire/tillwire/HttpFraming$BodyReader" := (hf0).ext E2
  have f2_1 : Fld Z h2 a1 "com/example/tillwire/tillwire/HttpFraming$BodyReader" "kept" "Ljava/io/ByteArrayOutputStream;" .null := (hf1).ext E2
  have f2_2 : Fld Z h2 a1 "com/example/tillwire/tillwire/HttpFraming$BodyReader" "line" "Lcom/example/tillwire/tillwire/HttpFraming$Line;" .null := (hf2).ext E2
  have f2_3 : Fld Z h2 a1 "com/example/tillwire/tillwire/HttpFraming$BodyReader" "whole" "Z" (.int (0 : Int32)) := (hf3).ext E2
  have f2_4 : Fld Z h2 a1 "com/example/tillwire/tillwire/HttpFraming$BodyReader" "chunked" "Z" (.int (0 : Int32)) := (hf4).ext E2
  have f2_5 : Fld Z h2 a1 "com/example/tillwire/tillwire/HttpFraming$BodyReader" "keep" "I" (.int (0 : Int32)) := (hf5).ext E2
  have f2_6 : Fld Z h2 a1 "com/example/tillwire/tillwire/HttpFraming$BodyReader" "skip" "J" (.long (0 : Int64)) := (hf6).ext E2
  have f2_7 : Fld Z h2 a1 "com/example/tillwire/tillwire/HttpFraming$BodyReader" "part" "Lcom/example/tillwire/tillwire/HttpFraming$BodyReader$Part;" .null := (hf7).ext E2
  have f2_8 : Fld Z h2 a1 "com/example/tillwire/tillwire/HttpFraming$BodyReader" "passed" "J" (.long (0 : Int64)) := (hf8).ext E2
  have f2_9 : Fld Z h2 a1 "com/example/tillwire/tillwire/HttpFraming$BodyReader" "left" "J" (.long (0 : Int64)) := (hf9).ext E2
  have f2_10 : Fld Z h2 a1 "com/example/tillwire/tillwire/HttpFraming$BodyReader" "skipped" "J" (.long (0 : Int64)) := (hf10).ext E2
  have O2 := O0.ext E2
  have K2 : Keep h0 h2 [a1] := (Keep.refl h0 [a1]).ext E2
  have f2_buf : Fld Z h2 b2 "java/io/ByteArrayOutputStream" "buf" "[B" .null := D2 (Or.inl (hw _ (List.mem_of_getElem? (i := 30) rfl))) (ty := (.array .byte)) (by decide)
  have f2_count : Fld Z h2 b2 "java/io/ByteArrayOutputStream" "count" "I" (.int (0 : Int32)) := D2 (Or.inl (hw _ (List.mem_of_getElem? (i := 106) rfl))) (ty := .int) (by decide)
  obtain ⟨_, _, ⟨T3, L3, k3, n3⟩, -, X3, ⟨Lc3, hQ3, l3, y3, z3⟩, st3⟩ := X2.specialBack hx (y := (⟨"java/io/ByteArrayOutputStream", "<init>", "()V"⟩ : MethodName)) rfl hown (mvT hZ (hw _ (List.mem_of_getElem? (i := 14) rfl))) (mvT hZ (hw _ (List.mem_of_getElem? (i := 15) rfl))) (mvT hZ (hw _ (List.mem_of_getElem? (i := 16) rfl))) (by decide) (backOf (W := 2) (rm_bo l Z a0 hw [] W b2 h2 n0 O2 g_b2 A2 U2 f2_buf f2_count) hZ (hw _ (List.mem_of_getElem? (i := 16) rfl)) (hw _ (List.mem_of_getElem? (i := 13) rfl)) (by decide) (by decide)) (g := (mkF m 9 #[.val (.ref a1), .val (.long (-2 : Int64)), .second, .val (.int p3), .val (.long q4), .second, .unset, .unset] [(.ref b2), (.ref b2), (.ref a1)])) rfl (by rw [hml]; rfl) (Steps.refl _) (a := b2) (argsL := []) (rest := [(.ref b2), (.ref a1)]) (lenOf pd_0 rfl) rfl (by show 2 * 0 + _ ≤ _; exact Nat.le_of_eq rfl) (hb hby d1_9) (fun _ _ => ⟨rfl, e2, (by decide : 1 + 1 ≤ _), (by decide : 2 + 32 ≤ _)⟩)
  dsimp only [Pt.U, Pt.locs, Pt.cells, Pt.slots] at X3 l3 y3 z3 st3 hQ3
  subst l3 y3 z3
  obtain ⟨N3q, hP3⟩ := hQ3
  have N3 := Fr.app N0 N3q
  obtain ⟨b3_b1_b2, k3_k1_k2, rfl, Kp3, g_b3_b1_b2, si_b3_b1_b2, fp3_0, fp3_1, fp3_2, fp3_3, fp3_4, fp3_5⟩ := hP3
  have f3_0 : Exa Z T3.heap a1 "com/example/tillwire/tillwire/HttpFraming$BodyReader" := (f2_0).keep Kp3
  have f3_1 : Fld Z T3.heap a1 "com/example/tillwire/tillwire/HttpFraming$BodyReader" "kept" "Ljava/io/ByteArrayOutputStream;" .null := (f2_1).keep Kp3 (ninS (ne_exa f2_0 A2 (by decide)) nin0)
  have f3_2 : Fld Z T3.heap a1 "com/example/tillwire/tillwire/HttpFraming$BodyReader" "line" "Lcom/example/tillwire/tillwire/HttpFraming$Line;" .null := (f2_2).keep Kp3 (ninS (ne_exa f2_0 A2 (by decide)) nin0)
  have f3_3 : Fld Z T3.heap a1 "com/example/tillwire/tillwire/HttpFraming$BodyReader" "whole" "Z" (.int (0 : Int32)) := (f2_3).keep Kp3 (ninS (ne_exa f2_0 A2 (by decide)) nin0)
  have f3_4 : Fld Z T3.heap a1 "com/example/tillwire/tillwire/HttpFraming$BodyReader" "chunked" "Z" (.int (0 : Int32)) := (f2_4).keep Kp3 (ninS (ne_exa f2_0 A2 (by decide)) nin0)
  have f3_5 : Fld Z T3.heap a1 "com/example/tillwire/tillwire/HttpFraming$BodyReader" "keep" "I" (.int (0 : Int32)) := (f2_5).keep Kp3 (ninS (ne_exa f2_0 A2 (by decide)) nin0)
  have f3_6 : Fld Z T3.heap a1 "com/example/tillwire/tillwire/HttpFraming$BodyReader" "skip" "J" (.long (0 : Int64)) := (f2_6).keep Kp3 (ninS (ne_exa f2_0 A2 (by decide)) nin0)
  have f3_7 : Fld Z T3.heap a1 "com/example/tillwire/tillwire/HttpFraming$BodyReader" "part" "Lcom/example/tillwire/tillwire/HttpFraming$BodyReader$Part;" .null := (f2_7).keep Kp3 (ninS (ne_exa f2_0 A2 (by decide)) nin0)
  have f3_8 : Fld Z T3.heap a1 "com/example/tillwire/tillwire/HttpFraming$BodyReader" "passed" "J" (.long (0 : Int64)) := (f2_8).keep Kp3 (ninS (ne_exa f2_0 A2 (by decide)) nin0)
  have f3_9 : Fld Z T3.heap a1 "com/example/tillwire/tillwire/HttpFraming$BodyReader" "left" "J" (.long (0 : Int64)) := (f2_9).keep Kp3 (ninS (ne_exa f2_0 A2 (by decide)) nin0)
  have f3_10 : Fld Z T3.heap a1 "com/example/tillwire/tillwire/HttpFraming$BodyReader" "skipped" "J" (.long (0 : Int64)) := (f2_10).keep Kp3 (ninS (ne_exa f2_0 A2 (by decide)) nin0)
  have f3_11 : Exa Z T3.heap b2 "java/io/ByteArrayOutputStream" := (A2).keep Kp3
  have O3 := O2.keep Kp3 (allS g_b2 all0)
  have sz_b3_b1_b2 : h0.size ≤ b3_b1_b2 := Nat.le_trans (K2).1 si_b3_b1_b2
  have K3 : Keep h0 T3.heap [a1] := K2.trans Kp3 (allS (Or.inr sz_b2) all0)
  obtain ⟨T4, h4, X4, e4, W4, st4⟩ := putF X3 hx hZ hown (host := "") (Or.inl (hw _ (List.mem_of_getElem? (i := 31) rfl))) Via.refl rfl f3_1 f3_0 (Or.inr ⟨(hw _ (List.mem_of_getElem? (i := 32) rfl)), rfl, hnm⟩) (hw _ (List.mem_of_getElem? (i := 3) rfl)) (ty := (.object "java/io/ByteArrayOutputStream")) (by decide) rfl rfl (g := (mkF m 12 #[.val (.ref a1), .val (.long (-2 : Int64)), .second, .val (.int p3), .val (.long q4), .second, .unset, .unset] [(.ref b2), (.ref a1)])) rfl rfl (hb hby d1_12)
  have fw4 : Fld Z h4 a1 "com/example/tillwire/tillwire/HttpFraming$BodyReader" "kept" "Ljava/io/ByteArrayOutputStream;" (.ref b2) := (f3_1).same W4
  have f4_0 : Exa Z h4 a1 "com/example/tillwire/tillwire/HttpFraming$BodyReader" := (f3_0).wr W4
  have f4_1 : Fld Z h4 a1 "com/example/tillwire/tillwire/HttpFraming$BodyReader" "line" "Lcom/example/tillwire/tillwire/HttpFraming$Line;" .null := (f3_2).other W4 (Or.inr (slot_ne (Or.inr (hw _ (List.mem_of_getElem? (i := 62) rfl))) (Or.inr (hw _ (List.mem_of_getElem? (i := 32) rfl))) (by decide) (t := (.object "com/example/tillwire/tillwire/HttpFraming$Line")) (t' := (.object "java/io/ByteArrayOutputStream")) (by decide) (by decide)))
  have f4_2 : Fld Z h4 a1 "com/example/tillwire/tillwire/HttpFraming$BodyReader" "whole" "Z" (.int (0 : Int32)) := (f3_3).other W4 (Or.inr (slot_ne (Or.inl (hw _ (List.mem_of_getElem? (i := 64) rfl))) (Or.inr (hw _ (List.mem_of_getElem? (i := 32) rfl))) (by decide) (t := .boolean) (t' := (.object "java/io/ByteArrayOutputStream")) (by decide) (by decide)))
  have f4_3 : Fld Z h4 a1 "com/example/tillwire/tillwire/HttpFraming$BodyReader" "chunked" "Z" (.int (0 : Int32)) := (f3_4).other W4 (Or.inr (slot_ne (Or.inr (hw _ (List.mem_of_getElem? (i := 67) rfl))) (Or.inr (hw _ (List.mem_of_getElem? (i := 32) rfl))) (by decide) (t := .boolean) (t' := (.object "java/io/ByteArrayOutputStream")) (by decide) (by decide)))
  have f4_4 : Fld Z h4 a1 "com/example/tillwire/tillwire/HttpFraming$BodyReader" "keep" "I" (.int (0 : Int32)) := (f3_5).other W4 (Or.inr (slot_ne (Or.inr (hw _ (List.mem_of_getElem? (i := 69) rfl))) (Or.inr (hw _ (List.mem_of_getElem? (i := 32) rfl))) (by decide) (t := .int) (t' := (.object "java/io/ByteArrayOutputStream")) (by decide) (by decide)))
  have f4_5 : Fld Z h4 a1 "com/example/tillwire/tillwire/HttpFraming$BodyReader" "skip" "J" (.long (0 : Int64)) := (f3_6).other W4 (Or.inr (slot_ne (Or.inr (hw _ (List.mem_of_getElem? (i := 71) rfl))) (Or.inr (hw _ (List.mem_of_getElem? (i := 32) rfl))) (by decide) (t := .long) (t' := (.object "java/io/ByteArrayOutputStream")) (by decide) (by decide)))
  have f4_6 : Fld Z h4 a1 "com/example/tillwire/tillwire/HttpFraming$BodyReader" "part" "Lcom/example/tillwire/tillwire/HttpFraming$BodyReader$Part;" .null := (f3_7).other W4 (Or.inr (slot_ne (Or.inl (hw _ (List.mem_of_getElem? (i := 77) rfl))) (Or.inr (hw _ (List.mem_of_getElem? (i := 32) rfl))) (by decide) (t := (.object "com/example/tillwire/tillwire/HttpFraming$BodyReader$Part")) (t' := (.object "java/io/ByteArrayOutputStream")) (by decide) (by decide)))
  have f4_7 : Fld Z h4 a1 "com/example/tillwire/tillwire/HttpFraming$BodyReader" "passed" "J" (.long (0 : Int64)) := (f3_8).other W4 (Or.inr (slot_ne (Or.inl (hw _ (List.mem_of_getElem? (i := 123) rfl))) (Or.inr (hw _ (List.mem_of_getElem? (i := 32) rfl))) (by decide) (t := .long) (t' := (.object "java/io/ByteArrayOutputStream")) (by decide) (by decide)))
  have f4_8 : Fld Z h4 a1 "com/example/tillwire/tillwire/HttpFraming$BodyReader" "left" "J" (.long (0 : Int64)) := (f3_9).other W4 (Or.inr (slot_ne (Or.inl (hw _ (List.mem_of_getElem? (i := 127) rfl))) (Or.inr (hw _ (List.mem_of_getElem? (i := 32) rfl))) (by decide) (t := .long) (t' := (.object "java/io/ByteArrayOutputStream")) (by decide) (by decide)))
  have f4_9 : Fld Z h4 a1 "com/example/tillwire/tillwire/HttpFraming$BodyReader" "skipped" "J" (.long (0 : Int64)) := (f3_10).other W4 (Or.inr (slot_ne (Or.inl (hw _ (List.mem_of_getElem? (i := 133) rfl))) (Or.inr (hw _ (List.mem_of_getElem? (i := 32) rfl))) (by decide) (t := .long) (t' := (.object "java/io/ByteArrayOutputStream")) (by decide) (by decide)))
  have f4_10 : Exa Z h4 b2 "java/io/ByteArrayOutputStream" := (fp3_0).wr W4
  have f4_11 : Unt h4 b2 := Unt.wr W4 fp3_1
  have f4_12 : Fld Z h4 b2 "java/io/ByteArrayOutputStream" "buf" "[B" (.ref b3_b1_b2) := (fp3_2).other W4 (Or.inl (ne_exa fp3_0 f3_0 (by decide)))
  have f4_13 : Fld Z h4 b2 "java/io/ByteArrayOutputStream" "count" "I" (.int (0 : Int32)) := (fp3_3).other W4 (Or.inl (ne_exa fp3_0 f3_0 (by decide)))
  have f4_14 : Exa Z h4 b3_b1_b2 "[B" := (fp3_4).wr W4
  have f4_15 : Arv Z h4 b3_b1_b2 k3_k1_k2 .byte (32 : Int32) [] (.int (0 : Int32)) := (fp3_5).other W4 (ne_exa fp3_4 f3_0 (by decide))
  have O4 := O3.wr W4 g_a1
  have N4 := Fr.snoc X4 N3 g_a1
  have K4 : Keep h0 h4 [a1] := K3.wr W4 (Or.inl (List.mem_of_getElem? (i := 0) rfl))
  obtain ⟨T5, h5, X5, e5, E5, A5, D5, U5, st5⟩ := newO X4 hx hZ hown (hw _ (List.mem_of_getElem? (i := 33) rfl)) (hw _ (List.mem_of_getElem? (i := 34) rfl)) (hw _ (List.mem_of_getElem? (i := 35) rfl)) e4 (g := (mkF m 16 #[.val (.ref a1), .val (.long (-2 : Int64)), .second, .val (.int p3), .val (.long q4), .second, .unset, .unset] [(.ref a1)])) rfl (hb hby d1_16) (by decide) (by decide)
  obtain ⟨b5, g5⟩ : ∃ z, z = h4.size := ⟨_, rfl⟩
  rw [← g5] at A5 D5 U5 st5
  have lt_a1_b5 : a1 < h4.size := (f4_0).lt
  have lt_b2_b5 : b2 < h4.size := (f4_10).lt
  have lt_b3_b1_b2_b5 : b3_b1_b2 < h4.size := (f4_14).lt
  have g_b5 : n0 ≤ b5 := by rw [g5]; exact O4.1 ▸ O4.2.1
  have sz_b5 : h0.size ≤ b5 := by rw [g5]; exact K4.1
  have f5_0 : Exa Z h5 a1 "com/example/tillwire/tillwire/HttpFraming$BodyReader" := (f4_0).ext E5
  have f5_1 : Fld Z h5 a1 "com/example/tillwire/tillwire/HttpFraming$BodyReader" "line" "Lcom/example/tillwire/tillwire/HttpFraming$Line;" .null := (f4_1).ext E5
  have f5_2 : Fld Z h5 a1 "com/example/tillwire/tillwire/HttpFraming$BodyReader" "whole" "Z" (.int (0 : Int32)) := (f4_2).ext E5
  have f5_3 : Fld Z h5 a1 "com/example/tillwire/tillwire/HttpFraming$BodyReader" "chunked" "Z" (.int (0 : Int32)) := (f4_3).ext E5
  have f5_4 : Fld Z h5 a1 "com/example/tillwire/tillwire/HttpFraming$BodyReader" "keep" "I" (.int (0 : Int32)) := (f4_4).ext E5
  have f5_5 : Fld Z h5 a1 "com/example/tillwire/tillwire/HttpFraming$BodyReader" "skip" "J" (.long (0 : Int64)) := (f4_5).ext E5
  have f5_6 : Fld Z h5 a1 "com/example/tillwire/tillwire/HttpFraming$BodyReader" "part" "Lcom/example/tillwire/tillwire/HttpFraming$BodyReader$Part;" .null := (f4_6).ext E5
  have f5_7 : Fld Z h5 a1 "com/example/tillwire/tillwire/HttpFraming$BodyReader" "passed" "J" (.long (0 : Int64)) := (f4_7).ext E5
  have f5_8 : Fld Z h5 a1 "com/example/tillwire/tillwire/HttpFraming$BodyReader" "left" "J" (.long (0 : Int64)) := (f4_8).ext E5
  have f5_9 : Fld Z h5 a1 "com/example/tillwire/tillwire/HttpFraming$BodyReader" "skipped" "J" (.long (0 : Int64)) := (f4_9).ext E5
  have f5_10 : Exa Z h5 b2 "java/io/ByteArrayOutputStream" := (f4_10).ext E5
  have f5_11 : Unt h5 b2 := Unt.ext E5 f4_11
  have f5_12 : Fld Z h5 b2 "java/io/ByteArrayOutputStream" "buf" "[B" (.ref b3_b1_b2) := (f4_12).ext E5
  have f5_13 : Fld Z h5 b2 "java/io/ByteArrayOutputStream" "count" "I" (.int (0 : Int32)) := (f4_13).ext E5
  have f5_14 : Exa Z h5 b3_b1_b2 "[B" := (f4_14).ext E5
  have f5_15 : Arv Z h5 b3_b1_b2 k3_k1_k2 .byte (32 : Int32) [] (.int (0 : Int32)) := (f4_15).ext E5
  have f5_16 : Fld Z h5 a1 "com/example/tillwire/tillwire/HttpFraming$BodyReader" "kept" "Ljava/io/ByteArrayOutputStream;" (.ref b2) := (fw4).ext E5
  have O5 := O4.ext E5
  have K5 : Keep h0 h5 [a1] := K4.ext E5
  have f5_text : Fld Z h5 b5 "com/example/tillwire/tillwire/HttpFraming$Line" "text" "Ljava/lang/StringBuilder;" .null := D5 (Or.inr (hw _ (List.mem_of_getElem? (i := 60) rfl))) (ty := (.object "java/lang/StringBuilder")) (by decide)
  obtain ⟨_, _, ⟨T6, L6, k6, n6⟩, -, X6, ⟨Lc6, hQ6, l6, y6, z6⟩, st6⟩ := X5.specialBackNest hx (y := (⟨"com/example/tillwire/tillwire/HttpFraming$Line", "<init>", "()V"⟩ : MethodName)) rfl hown (Cond.methodLinkNest_wide hZ (hw _ (List.mem_of_getElem? (i := 36) rfl)) :) (mvT hZ (hw _ (List.mem_of_getElem? (i := 37) rfl))) (mvT hZ (hw _ (List.mem_of_getElem? (i := 38) rfl))) (by decide) (backOf (W := 2) (rm_ln l Z a0 hw [] W b5 h5 n0 O5 g_b5 A5 f5_text) hZ (hw _ (List.mem_of_getElem? (i := 38) rfl)) (hw _ (List.mem_of_getElem? (i := 35) rfl)) (by decide) (by decide)) (g := (mkF m 20 #[.val (.ref a1), .val (.long (-2 : Int64)), .second, .val (.int p3), .val (.long q4), .second, .unset, .unset] [(.ref b5), (.ref b5), (.ref a1)])) rfl (by rw [hml]; rfl) (Steps.refl _) (a := b5) (argsL := []) (rest := [(.ref b5), (.ref a1)]) (lenOf pd_0 rfl) rfl (by show 2 * 0 + _ ≤ _; exact Nat.le_of_eq rfl) (hb hby d1_20) (fun _ _ => ⟨rfl, e5, (by decide : 3 + 2 ≤ _), (by decide : 36 + 20 ≤ _)⟩)
  dsimp only [Pt.U, Pt.locs, Pt.cells, Pt.slots] at X6 l6 y6 z6 st6 hQ6
  subst l6 y6 z6
  obtain ⟨N6q, hP6⟩ := hQ6
  have N6 := Fr.app N4 N6q
  obtain ⟨rfl, Kp6, fp6_0⟩ := hP6
  have f6_0 : Exa Z T6.heap a1 "com/example/tillwire/tillwire/HttpFraming$BodyReader" := (f5_0).keep Kp6
  have f6_1 : Fld Z T6.heap a1 "com/example/tillwire/tillwire/HttpFraming$BodyReader" "line" "Lcom/example/tillwire/tillwire/HttpFraming$Line;" .null := (f5_1).keep Kp6 (ninS (ne_exa f5_0 A5 (by decide)) nin0)
  have f6_2 : Fld Z T6.heap a1 "com/example/tillwire/tillwire/HttpFraming$BodyReader" "whole" "Z" (.int (0 : Int32)) := (f5_2).keep Kp6 (ninS (ne_exa f5_0 A5 (by decide)) nin0)
  have f6_3 : Fld Z T6.heap a1 "com/example/tillwire/tillwire/HttpFraming$BodyReader" "chunked" "Z" (.int (0 : Int32)) := (f5_3).keep Kp6 (ninS (ne_exa f5_0 A5 (by decide)) nin0)
  have f6_4 : Fld Z T6.heap a1 "com/example/tillwire/tillwire/HttpFraming$BodyReader" "keep" "I" (.int (0 : Int32)) := (f5_4).keep Kp6 (ninS (ne_exa f5_0 A5 (by decide)) nin0)
  have f6_5 : Fld Z T6.heap a1 "com/example/tillwire/tillwire/HttpFraming$BodyReader" "skip" "J" (.long (0 : Int64)) := (f5_5).keep Kp6 (ninS (ne_exa f5_0 A5 (by decide)) nin0)
  have f6_6 : Fld Z T6.heap a1 "com/example/tillwire/tillwire/HttpFraming$BodyReader" "part" "Lcom/example/tillwire/tillwire/HttpFraming$BodyReader$Part;" .null := (f5_6).keep Kp6 (ninS (ne_exa f5_0 A5 (by decide)) nin0)
  have f6_7 : Fld Z T6.heap a1 "com/example/tillwire/tillwire/HttpFraming$BodyReader" "passed" "J" (.long (0 : Int64)) := (f5_7).keep Kp6 (ninS (ne_exa f5_0 A5 (by decide)) nin0)
  have f6_8 : Fld Z T6.heap a1 "com/example/tillwire/tillwire/HttpFraming$BodyReader" "left" "J" (.long (0 : Int64)) := (f5_8).keep Kp6 (ninS (ne_exa f5_0 A5 (by decide)) nin0)
  have f6_9 : Fld Z T6.heap a1 "com/example/tillwire/tillwire/HttpFraming$BodyReader" "skipped" "J" (.long (0 : Int64)) := (f5_9).keep Kp6 (ninS (ne_exa f5_0 A5 (by decide)) nin0)
  have f6_10 : Exa Z T6.heap b2 "java/io/ByteArrayOutputStream" := (f5_10).keep Kp6
  have f6_11 : Unt T6.heap b2 := own_untk f5_11 Kp6 (ninS (ne_exa f5_10 A5 (by decide)) nin0)
  have f6_12 : Fld Z T6.heap b2 "java/io/ByteArrayOutputStream" "buf" "[B" (.ref b3_b1_b2) := (f5_12).keep Kp6 (ninS (ne_exa f5_10 A5 (by decide)) nin0)
  have f6_13 : Fld Z T6.heap b2 "java/io/ByteArrayOutputStream" "count" "I" (.int (0 : Int32)) := (f5_13).keep Kp6 (ninS (ne_exa f5_10 A5 (by decide)) nin0)
  have f6_14 : Exa Z T6.heap b3_b1_b2 "[B" := (f5_14).keep Kp6
  have f6_15 : Arv Z T6.heap b3_b1_b2 k3_k1_k2 .byte (32 : Int32) [] (.int (0 : Int32)) := (f5_15).keep Kp6 (ninS (ne_exa f5_14 A5 (by decide)) nin0)
  have f6_16 : Fld Z T6.heap a1 "com/example/tillwire/tillwire/HttpFraming$BodyReader" "kept" "Ljava/io/ByteArrayOutputStream;" (.ref b2) := (f5_16).keep Kp6 (ninS (ne_exa f5_0 A5 (by decide)) nin0)
  have f6_17 : Exa Z T6.heap b5 "com/example/tillwire/tillwire/HttpFraming$Line" := (A5).keep Kp6
  have O6 := O5.keep Kp6 (allS g_b5 all0)
  have K6 : Keep h0 T6.heap [a1] := K5.trans Kp6 (allS (Or.inr sz_b5) all0)
  obtain ⟨T7, h7, X7, e7, W7, st7⟩ := putF X6 hx hZ hown (host := "") (Or.inl (hw _ (List.mem_of_getElem? (i := 61) rfl))) Via.refl rfl f6_1 f6_0 (Or.inr ⟨(hw _ (List.mem_of_getElem? (i := 62) rfl)), rfl, hnm⟩) (hw _ (List.mem_of_getElem? (i := 3) rfl)) (ty := (.object "com/example/tillwire/tillwire/HttpFraming$Line")) (by decide) rfl rfl (g := (mkF m 23 #[.val (.ref a1), .val (.long (-2 : Int64)), .second, .val (.int p3), .val (.long q4), .second, .unset, .unset] [(.ref b5), (.ref a1)])) rfl rfl (hb hby d1_23)
  have fw7 : Fld Z h7 a1 "com/example/tillwire/tillwire/HttpFraming$BodyReader" "line" "Lcom/example/tillwire/tillwire/HttpFraming$Line;" (.ref b5) := (f6_1).same W7
  have f7_0 : Exa Z h7 a1 "com/example/tillwire/tillwire/HttpFraming$BodyReader" := (f6_0).wr W7
  have f7_1 : Fld Z h7 a1 "com/example/tillwire/tillwire/HttpFraming$BodyReader" "whole" "Z" (.int (0 : Int32)) := (f6_2).other W7 (Or.inr (slot_ne (Or.inl (hw _ (List.mem_of_getElem? (i := 64) rfl))) (Or.inr (hw _ (List.mem_of_getElem? (i := 62) rfl))) (by decide) (t := .boolean) (t' := (.object "com/example/tillwire/tillwire/HttpFraming$Line")) (by decide) (by decide)))
  have f7_2 : Fld Z h7 a1 "com/example/tillwire/tillwire/HttpFraming$BodyReader" "chunked" "Z" (.int (0 : Int32)) := (f6_3).other W7 (Or.inr (slot_ne (Or.inr (hw _ (List.mem_of_getElem? (i := 67) rfl))) (Or.inr (hw _ (List.mem_of_getElem? (i := 62) rfl))) (by decide) (t := .boolean) (t' := (.object "com/example/tillwire/tillwire/HttpFraming$Line")) (by decide) (by decide)))
  have f7_3 : Fld Z h7 a1 "com/example/tillwire/tillwire/HttpFraming$BodyReader" "keep" "I" (.int (0 : Int32)) := (f6_4).other W7 (Or.inr (slot_ne (Or.inr (hw _ (List.mem_of_getElem? (i := 69) rfl))) (Or.inr (hw _ (List.mem_of_getElem? (i := 62) rfl))) (by decide) (t := .int) (t' := (.object "com/example/tillwire/tillwire/HttpFraming$Line")) (by decide) (by decide)))
  have f7_4 : Fld Z h7 a1 "com/example/tillwire/tillwire/HttpFraming$BodyReader" "skip" "J" (.long (0 : Int64)) := (f6_5).other W7 (Or.inr (slot_ne (Or.inr (hw _ (List.mem_of_getElem? (i := 71) rfl))) (Or.inr (hw _ (List.mem_of_getElem? (i := 62) rfl))) (by decide) (t := .long) (t' := (.object "com/example/tillwire/tillwire/HttpFraming$Line")) (by decide) (by decide)))
  have f7_5 : Fld Z h7 a1 "com/example/tillwire/tillwire/HttpFraming$BodyReader" "part" "Lcom/example/tillwire/tillwire/HttpFraming$BodyReader$Part;" .null := (f6_6).other W7 (Or.inr (slot_ne (Or.inl (hw _ (List.mem_of_getElem? (i := 77) rfl))) (Or.inr (hw _ (List.mem_of_getElem? (i := 62) rfl))) (by decide) (t := (.object "com/example/tillwire/tillwire/HttpFraming$BodyReader$Part")) (t' := (.object "com/example/tillwire/tillwire/HttpFraming$Line")) (by decide) (by decide)))
  have f7_6 : Fld Z h7 a1 "com/example/tillwire/tillwire/HttpFraming$BodyReader" "passed" "J" (.long (0 : Int64)) := (f6_7).other W7 (Or.inr (slot_ne (Or.inl (hw _ (List.mem_of_getElem? (i := 123) rfl))) (Or.inr (hw _ (List.mem_of_getElem? (i := 62) rfl))) (by decide) (t := .long) (t' := (.object "com/example/tillwire/tillwire/HttpFraming$Line")) (by decide) (by decide)))
  have f7_7 : Fld Z h7 a1 "com/example/tillwire/tillwire/HttpFraming$BodyReader" "left" "J" (.long (0 : Int64)) := (f6_8).other W7 (Or.inr (slot_ne (Or.inl (hw _ (List.mem_of_getElem? (i := 127) rfl))) (Or.inr (hw _ (List.mem_of_getElem? (i := 62) rfl))) (by decide) (t := .long) (t' := (.object "com/example/tillwire/tillwire/HttpFraming$Line")) (by decide) (by decide)))
  have f7_8 : Fld Z h7 a1 "com/example/tillwire/tillwire/HttpFraming$BodyReader" "skipped" "J" (.long (0 : Int64)) := (f6_9).other W7 (Or.inr (slot_ne (Or.inl (hw _ (List.mem_of_getElem? (i := 133) rfl))) (Or.inr (hw _ (List.mem_of_getElem? (i := 62) rfl))) (by decide) (t := .long) (t' := (.object "com/example/tillwire/tillwire/HttpFraming$Line")) (by decide) (by decide)))
  have f7_9 : Exa Z h7 b2 "java/io/ByteArrayOutputStream" := (f6_10).wr W7
  have f7_10 : Unt h7 b2 := Unt.wr W7 f6_11
  have f7_11 : Fld Z h7 b2 "java/io/ByteArrayOutputStream" "buf" "[B" (.ref b3_b1_b2) := (f6_12).other W7 (Or.inl (ne_exa f6_10 f6_0 (by decide)))
  have f7_12 : Fld Z h7 b2 "java/io/ByteArrayOutputStream" "count" "I" (.int (0 : Int32)) := (f6_13).other W7 (Or.inl (ne_exa f6_10 f6_0 (by decide)))
  have f7_13 : Exa Z h7 b3_b1_b2 "[B" := (f6_14).wr W7
  have f7_14 : Arv Z h7 b3_b1_b2 k3_k1_k2 .byte (32 : Int32) [] (.int (0 : Int32)) := (f6_15).other W7 (ne_exa f6_14 f6_0 (by decide))
  have f7_15 : Fld Z h7 a1 "com/example/tillwire/tillwire/HttpFraming$BodyReader" "kept" "Ljava/io/ByteArrayOutputStream;" (.ref b2) := (f6_16).other W7 (Or.inr (slot_ne (Or.inr (hw _ (List.mem_of_getElem? (i := 32) rfl))) (Or.inr (hw _ (List.mem_of_getElem? (i := 62) rfl))) (by decide) (t := (.object "java/io/ByteArrayOutputStream")) (t' := (.object "com/example/tillwire/tillwire/HttpFraming$Line")) (by decide) (by decide)))
  have f7_16 : Exa Z h7 b5 "com/example/tillwire/tillwire/HttpFraming$Line" := (fp6_0).wr W7
  have O7 := O6.wr W7 g_a1
  have N7 := Fr.snoc X7 N6 g_a1
  have K7 : Keep h0 h7 [a1] := K6.wr W7 (Or.inl (List.mem_of_getElem? (i := 0) rfl))
  obtain ⟨T8, h8, X8, e8, W8, st8⟩ := putFN X7 hx hZ hown (hw _ (List.mem_of_getElem? (i := 63) rfl)) Via.refl e7 f7_1 f7_0 (Or.inl (hw _ (List.mem_of_getElem? (i := 64) rfl))) (hw _ (List.mem_of_getElem? (i := 3) rfl)) (ty := .boolean) (v' := (.int (1 : Int32))) (by decide) rfl rfl (g := (mkF m 28 #[.val (.ref a1), .val (.long (-2 : Int64)), .second, .val (.int p3), .val (.long q4), .second, .unset, .unset] [(.int (1 : Int32)), (.ref a1)])) rfl rfl (hb hby d1_28)
  have fw8 : Fld Z h8 a1 "com/example/tillwire/tillwire/HttpFraming$BodyReader" "whole" "Z" (.int (1 : Int32)) := (f7_1).same W8
  have f8_0 : Exa Z h8 a1 "com/example/tillwire/tillwire/HttpFraming$BodyReader" := (f7_0).wr W8
  have f8_1 : Fld Z h8 a1 "com/example/tillwire/tillwire/HttpFraming$BodyReader" "chunked" "Z" (.int (0 : Int32)) := (f7_2).other W8 (Or.inr (slot_ne (Or.inr (hw _ (List.mem_of_getElem? (i := 67) rfl))) (Or.inl (hw _ (List.mem_of_getElem? (i := 64) rfl))) (by decide) (t := .boolean) (t' := .boolean) (by decide) (by decide)))
  have f8_2 : Fld Z h8 a1 "com/example/tillwire/tillwire/HttpFraming$BodyReader" "keep" "I" (.int (0 : Int32)) := (f7_3).other W8 (Or.inr (slot_ne (Or.inr (hw _ (List.mem_of_getElem? (i := 69) rfl))) (Or.inl (hw _ (List.mem_of_getElem? (i := 64) rfl))) (by decide) (t := .int) (t' := .boolean) (by decide) (by decide)))
  have f8_3 : Fld Z h8 a1 "com/example/tillwire/tillwire/HttpFraming$BodyReader" "skip" "J" (.long (0 : Int64)) := (f7_4).other W8 (Or.inr (slot_ne (Or.inr (hw _ (List.mem_of_getElem? (i := 71) rfl))) (Or.inl (hw _ (List.mem_of_getElem? (i := 64) rfl))) (by decide) (t := .long) (t' := .boolean) (by decide) (by decide)))
  have f8_4 : Fld Z h8 a1 "com/example/tillwire/tillwire/HttpFraming$BodyReader" "part" "Lcom/example/tillwire/tillwire/HttpFraming$BodyReader$Part;" .null := (f7_5).other W8 (Or.inr (slot_ne (Or.inl (hw _ (List.mem_of_getElem? (i := 77) rfl))) (Or.inl (hw _ (List.mem_of_getElem? (i := 64) rfl))) (by decide) (t := (.object "com/example/tillwire/tillwire/HttpFraming$BodyReader$Part")) (t' := .boolean) (by decide) (by decide)))
  have f8_5 : Fld Z h8 a1 "com/example/tillwire/tillwire/HttpFraming$BodyReader" "passed" "J" (.long (0 : Int64)) := (f7_6).other W8 (Or.inr (slot_ne (Or.inl (hw _ (List.mem_of_getElem? (i := 123) rfl))) (Or.inl (hw _ (List.mem_of_getElem? (i := 64) rfl))) (by decide) (t := .long) (t' := .boolean) (by decide) (by decide)))
  have f8_6 : Fld Z h8 a1 "com/example/tillwire/tillwire/HttpFraming$BodyReader" "left" "J" (.long (0 : Int64)) := (f7_7).other W8 (Or.inr (slot_ne (Or.inl (hw _ (List.mem_of_getElem? (i := 127) rfl))) (Or.inl (hw _ (List.mem_of_getElem? (i := 64) rfl))) (by decide) (t := .long) (t' := .boolean) (by decide) (by decide)))
  have f8_7 : Fld Z h8 a1 "com/example/tillwire/tillwire/HttpFraming$BodyReader" "skipped" "J" (.long (0 : Int64)) := (f7_8).other W8 (Or.inr (slot_ne (Or.inl (hw _ (List.mem_of_getElem? (i := 133) rfl))) (Or.inl (hw _ (List.mem_of_getElem? (i := 64) rfl))) (by decide) (t := .long) (t' := .boolean) (by decide) (by decide)))
  have f8_8 : Exa Z h8 b2 "java/io/ByteArrayOutputStream" := (f7_9).wr W8
  have f8_9 : Unt h8 b2 := Unt.wr W8 f7_10
  have f8_10 : Fld Z h8 b2 "java/io/ByteArrayOutputStream" "buf" "[B" (.ref b3_b1_b2) := (f7_11).other W8 (Or.inl (ne_exa f7_9 f7_0 (by decide)))
  have f8_11 : Fld Z h8 b2 "java/io/ByteArrayOutputStream" "count" "I" (.int (0 : Int32)) := (f7_12).other W8 (Or.inl (ne_exa f7_9 f7_0 (by decide)))
  have f8_12 : Exa Z h8 b3_b1_b2 "[B" := (f7_13).wr W8
  have f8_13 : Arv Z h8 b3_b1_b2 k3_k1_k2 .byte (32 : Int32) [] (.int (0 : Int32)) := (f7_14).other W8 (ne_exa f7_13 f7_0 (by decide))
  have f8_14 : Fld Z h8 a1 "com/example/tillwire/tillwire/HttpFraming$BodyReader" "kept" "Ljava/io/ByteArrayOutputStream;" (.ref b2) := (f7_15).other W8 (Or.inr (slot_ne (Or.inr (hw _ (List.mem_of_getElem? (i := 32) rfl))) (Or.inl (hw _ (List.mem_of_getElem? (i := 64) rfl))) (by decide) (t := (.object "java/io/ByteArrayOutputStream")) (t' := .boolean) (by decide) (by decide)))
  have f8_15 : Exa Z h8 b5 "com/example/tillwire/tillwire/HttpFraming$Line" := (f7_16).wr W8
  have f8_16 : Fld Z h8 a1 "com/example/tillwire/tillwire/HttpFraming$BodyReader" "line" "Lcom/example/tillwire/tillwire/HttpFraming$Line;" (.ref b5) := (fw7).other W8 (Or.inr (slot_ne (Or.inr (hw _ (List.mem_of_getElem? (i := 62) rfl))) (Or.inl (hw _ (List.mem_of_getElem? (i := 64) rfl))) (by decide) (t := (.object "com/example/tillwire/tillwire/HttpFraming$Line")) (t' := .boolean) (by decide) (by decide)))
  have O8 := O7.wr W8 g_a1
  have N8 := Fr.snoc X8 N7 g_a1
  have K8 : Keep h0 h8 [a1] := K7.wr W8 (Or.inl (List.mem_of_getElem? (i := 0) rfl))
  obtain ⟨T9, h9, X9, e9, W9, st9⟩ := putFN X8 hx hZ hown (hw _ (List.mem_of_getElem? (i := 66) rfl)) Via.refl e8 f8_1 f8_0 (Or.inr ⟨(hw _ (List.mem_of_getElem? (i := 67) rfl)), rfl, hnm⟩) (hw _ (List.mem_of_getElem? (i := 3) rfl)) (ty := .boolean) (v' := (.int (0 : Int32))) (by decide) rfl rfl (g := (mkF m 45 #[.val (.ref a1), .val (.long (-2 : Int64)), .second, .val (.int p3), .val (.long q4), .second, .unset, .unset] [(.int (0 : Int32)), (.ref a1)])) rfl rfl (hb hby d1_45)
  have fw9 : Fld Z h9 a1 "com/example/tillwire/tillwire/HttpFraming$BodyReader" "chunked" "Z" (.int (0 : Int32)) := (f8_1).same W9
  have f9_0 : Exa Z h9 a1 "com/example/tillwire/tillwire/HttpFraming$BodyReader" := (f8_0).wr W9
  have f9_1 : Fld Z h9 a1 "com/example/tillwire/tillwire/HttpFraming$BodyReader" "keep" "I" (.int (0 : Int32)) := (f8_2).other W9 (Or.inr (slot_ne (Or.inr (hw _ (List.mem_of_getElem? (i := 69) rfl))) (Or.inr (hw _ (List.mem_of_getElem? (i := 67) rfl))) (by decide) (t := .int) (t' := .boolean) (by decide) (by decide)))
  have f9_2 : Fld Z h9 a1 "com/example/tillwire/tillwire/HttpFraming$BodyReader" "skip" "J" (.long (0 : Int64)) := (f8_3).other W9 (Or.inr (slot_ne (Or.inr (hw _ (List.mem_of_getElem? (i := 71) rfl))) (Or.inr (hw _ (List.mem_of_getElem? (i := 67) rfl))) (by decide) (t := .long) (t' := .boolean) (by decide) (by decide)))
  have f9_3 : Fld Z h9 a1 "com/example/tillwire/tillwire/HttpFraming$BodyReader" "part" "Lcom/example/tillwire/tillwire/HttpFraming$BodyReader$Part;" .null := (f8_4).other W9 (Or.inr (slot_ne (Or.inl (hw _ (List.mem_of_getElem? (i := 77) rfl))) (Or.inr (hw _ (List.mem_of_getElem? (i := 67) rfl))) (by decide) (t := (.object "com/example/tillwire/tillwire/HttpFraming$BodyReader$Part")) (t' := .boolean) (by decide) (by decide)))
  have f9_4 : Fld Z h9 a1 "com/example/tillwire/tillwire/HttpFraming$BodyReader" "passed" "J" (.long (0 : Int64)) := (f8_5).other W9 (Or.inr (slot_ne (Or.inl (hw _ (List.mem_of_getElem? (i := 123) rfl))) (Or.inr (hw _ (List.mem_of_getElem? (i := 67) rfl))) (by decide) (t := .long) (t' := .boolean) (by decide) (by decide)))
  have f9_5 : Fld Z h9 a1 "com/example/tillwire/tillwire/HttpFraming$BodyReader" "left" "J" (.long (0 : Int64)) := (f8_6).other W9 (Or.inr (slot_ne (Or.inl (hw _ (List.mem_of_getElem? (i := 127) rfl))) (Or.inr (hw _ (List.mem_of_getElem? (i := 67) rfl))) (by decide) (t := .long) (t' := .boolean) (by decide) (by decide)))
  have f9_6 : Fld Z h9 a1 "com/example/tillwire/tillwire/HttpFraming$BodyReader" "skipped" "J" (.long (0 : Int64)) := (f8_7).other W9 (Or.inr (slot_ne (Or.inl (hw _ (List.mem_of_getElem? (i := 133) rfl))) (Or.inr (hw _ (List.mem_of_getElem? (i := 67) rfl))) (by decide) (t := .long) (t' := .boolean) (by decide) (by decide)))
  have f9_7 : Exa Z h9 b2 "java/io/ByteArrayOutputStream" := (f8_8).wr W9
  have f9_8 : Unt h9 b2 := Unt.wr W9 f8_9
  have f9_9 : Fld Z h9 b2 "java/io/ByteArrayOutputStream" "buf" "[B" (.ref b3_b1_b2) := (f8_10).other W9 (Or.inl (ne_exa f8_8 f8_0 (by decide)))
  have f9_10 : Fld Z h9 b2 "java/io/ByteArrayOutputStream" "count" "I" (.int (0 : Int32)) := (f8_11).other W9 (Or.inl (ne_exa f8_8 f8_0 (by decide)))
  have f9_11 : Exa Z h9 b3_b1_b2 "[B" := (f8_12).wr W9
  have f9_12 : Arv Z h9 b3_b1_b2 k3_k1_k2 .byte (32 : Int32) [] (.int (0 : Int32)) := (f8_13).other W9 (ne_exa f8_12 f8_0 (by decide))
  have f9_13 : Fld Z h9 a1 "com/example/tillwire/tillwire/HttpFraming$BodyReader" "kept" "Ljava/io/ByteArrayOutputStream;" (.ref b2) := (f8_14).other W9 (Or.inr (slot_ne (Or.inr (hw _ (List.mem_of_getElem? (i := 32) rfl))) (Or.inr (hw _ (List.mem_of_getElem? (i := 67) rfl))) (by decide) (t := (.object "java/io/ByteArrayOutputStream")) (t' := .boolean) (by decide) (by decide)))
  have f9_14 : Exa Z h9 b5 "com/example/tillwire/tillwire/HttpFraming$Line" := (f8_15).wr W9
  have f9_15 : Fld Z h9 a1 "com/example/tillwire/tillwire/HttpFraming$BodyReader" "line" "Lcom/example/tillwire/tillwire/HttpFraming$Line;" (.ref b5) := (f8_16).other W9 (Or.inr (slot_ne (Or.inr (hw _ (List.mem_of_getElem? (i := 62) rfl))) (Or.inr (hw _ (List.mem_of_getElem? (i := 67) rfl))) (by decide) (t := (.object "com/example/tillwire/tillwire/HttpFraming$Line")) (t' := .boolean) (by decide) (by decide)))
  have f9_16 : Fld Z h9 a1 "com/example/tillwire/tillwire/HttpFraming$BodyReader" "whole" "Z" (.int (1 : Int32)) := (fw8).other W9 (Or.inr (slot_ne (Or.inl (hw _ (List.mem_of_getElem? (i := 64) rfl))) (Or.inr (hw _ (List.mem_of_getElem? (i := 67) rfl))) (by decide) (t := .boolean) (t' := .boolean) (by decide) (by decide)))
  have O9 := O8.wr W9 g_a1
  have N9 := Fr.snoc X9 N8 g_a1
  have K9 : Keep h0 h9 [a1] := K8.wr W9 (Or.inl (List.mem_of_getElem? (i := 0) rfl))
  obtain ⟨T10, h10, X10, e10, W10, st10⟩ := putF X9 hx hZ hown (host := "") (Or.inl (hw _ (List.mem_of_getElem? (i := 68) rfl))) Via.refl e9 f9_1 f9_0 (Or.inr ⟨(hw _ (List.mem_of_getElem? (i := 69) rfl)), rfl, hnm⟩) (hw _ (List.mem_of_getElem? (i := 3) rfl)) (ty := .int) (by decide) rfl rfl (g := (mkF m 50 #[.val (.ref a1), .val (.long (-2 : Int64)), .second, .val (.int p3), .val (.long q4), .second, .unset, .unset] [(.int p3), (.ref a1)])) rfl rfl (hb hby d1_50)
  have fw10 : Fld Z h10 a1 "com/example/tillwire/tillwire/HttpFraming$BodyReader" "keep" "I" (.int p3) := (f9_1).same W10
  have f10_0 : Exa Z h10 a1 "com/example/tillwire/tillwire/HttpFraming$BodyReader" := (f9_0).wr W10
  have f10_1 : Fld Z h10 a1 "com/example/tillwire/tillwire/HttpFraming$BodyReader" "skip" "J" (.long (0 : Int64)) := (f9_2).other W10 (Or.inr (slot_ne (Or.inr (hw _ (List.mem_of_getElem? (i := 71) rfl))) (Or.inr (hw _ (List.mem_of_getElem? (i := 69) rfl))) (by decide) (t := .long) (t' := .int) (by decide) (by decide)))
  have f10_2 : Fld Z h10 a1 "com/example/tillwire/tillwire/HttpFraming$BodyReader" "part" "Lcom/example/tillwire/tillwire/HttpFraming$BodyReader$Part;" .null := (f9_3).other W10 (Or.inr (slot_ne (Or.inl (hw _ (List.mem_of_getElem? (i := 77) rfl))) (Or.inr (hw _ (List.mem_of_getElem? (i := 69) rfl))) (by decide) (t := (.object "com/example/tillwire/tillwire/HttpFraming$BodyReader$Part")) (t' := .int) (by decide) (by decide)))
  have f10_3 : Fld Z h10 a1 "com/example/tillwire/tillwire/HttpFraming$BodyReader" "passed" "J" (.long (0 : Int64)) := (f9_4).other W10 (Or.inr (slot_ne (Or.inl (hw _ (List.mem_of_getElem? (i := 123) rfl))) (Or.inr (hw _ (List.mem_of_getElem? (i := 69) rfl))) (by decide) (t := .long) (t' := .int) (by decide) (by decide)))
  have f10_4 : Fld Z h10 a1 "com/example/tillwire/tillwire/HttpFraming$BodyReader" "left" "J" (.long (0 : Int64)) := (f9_5).other W10 (Or.inr (slot_ne (Or.inl (hw _ (List.mem_of_getElem? (i := 127) rfl))) (Or.inr (hw _ (List.mem_of_getElem? (i := 69) rfl))) (by decide) (t := .long) (t' := .int) (by decide) (by decide)))
  have f10_5 : Fld Z h10 a1 "com/example/tillwire/tillwire/HttpFraming$BodyReader" "skipped" "J" (.long (0 : Int64)) := (f9_6).other W10 (Or.inr (slot_ne (Or.inl (hw _ (List.mem_of_getElem? (i := 133) rfl))) (Or.inr (hw _ (List.mem_of_getElem? (i := 69) rfl))) (by decide) (t := .long) (t' := .int) (by decide) (by decide)))
  have f10_6 : Exa Z h10 b2 "java/io/ByteArrayOutputStream" := (f9_7).wr W10
  have f10_7 : Unt h10 b2 := Unt.wr W10 f9_8
  have f10_8 : Fld Z h10 b2 "java/io/ByteArrayOutputStream" "buf" "[B" (.ref b3_b1_b2) := (f9_9).other W10 (Or.inl (ne_exa f9_7 f9_0 (by decide)))
  have f10_9 : Fld Z h10 b2 "java/io/ByteArrayOutputStream" "count" "I" (.int (0 : Int32)) := (f9_10).other W10 (Or.inl (ne_exa f9_7 f9_0 (by decide)))
  have f10_10 : Exa Z h10 b3_b1_b2 "[B" := (f9_11).wr W10
  have f10_11 : Arv Z h10 b3_b1_b2 k3_k1_k2 .byte (32 : Int32) [] (.int (0 : Int32)) := (f9_12).other W10 (ne_exa f9_11 f9_0 (by decide))
  have f10_12 : Fld Z h10 a1 "com/example/tillwire/tillwire/HttpFraming$BodyReader" "kept" "Ljava/io/ByteArrayOutputStream;" (.ref b2) := (f9_13).other W10 (Or.inr (slot_ne (Or.inr (hw _ (List.mem_of_getElem? (i := 32) rfl))) (Or.inr (hw _ (List.mem_of_getElem? (i := 69) rfl))) (by decide) (t := (.object "java/io/ByteArrayOutputStream")) (t' := .int) (by decide) (by decide)))
  have f10_13 : Exa Z h10 b5 "com/example/tillwire/tillwire/HttpFraming$Line" := (f9_14).wr W10
  have f10_14 : Fld Z h10 a1 "com/example/tillwire/tillwire/HttpFraming$BodyReader" "line" "Lcom/example/tillwire/tillwire/HttpFraming$Line;" (.ref b5) := (f9_15).other W10 (Or.inr (slot_ne (Or.inr (hw _ (List.mem_of_getElem? (i := 62) rfl))) (Or.inr (hw _ (List.mem_of_getElem? (i := 69) rfl))) (by decide) (t := (.object "com/example/tillwire/tillwire/HttpFraming$Line")) (t' := .int) (by decide) (by decide)))
  have f10_15 : Fld Z h10 a1 "com/example/tillwire/tillwire/HttpFraming$BodyReader" "whole" "Z" (.int (1 : Int32)) := (f9_16).other W10 (Or.inr (slot_ne (Or.inl (hw _ (List.mem_of_getElem? (i := 64) rfl))) (Or.inr (hw _ (List.mem_of_getElem? (i := 69) rfl))) (by decide) (t := .boolean) (t' := .int) (by decide) (by decide)))
  have f10_16 : Fld Z h10 a1 "com/example/tillwire/tillwire/HttpFraming$BodyReader" "chunked" "Z" (.int (0 : Int32)) := (fw9).other W10 (Or.inr (slot_ne (Or.inr (hw _ (List.mem_of_getElem? (i := 67) rfl))) (Or.inr (hw _ (List.mem_of_getElem? (i := 69) rfl))) (by decide) (t := .boolean) (t' := .int) (by decide) (by decide)))
  have O10 := O9.wr W10 g_a1
  have N10 := Fr.snoc X10 N9 g_a1
  have K10 : Keep h0 h10 [a1] := K9.wr W10 (Or.inl (List.mem_of_getElem? (i := 0) rfl))
  obtain ⟨T11, h11, X11, e11, W11, st11⟩ := putF X10 hx hZ hown (host := "") (Or.inl (hw _ (List.mem_of_getElem? (i := 70) rfl))) Via.refl e10 f10_1 f10_0 (Or.inr ⟨(hw _ (List.mem_of_getElem? (i := 71) rfl)), rfl, hnm⟩) (hw _ (List.mem_of_getElem? (i := 3) rfl)) (ty := .long) (by decide) rfl rfl (g := (mkF m 56 #[.val (.ref a1), .val (.long (-2 : Int64)), .second, .val (.int p3), .val (.long q4), .second, .unset, .unset] [(.long q4), (.ref a1)])) rfl rfl (hb hby d1_56)
  have fw11 : Fld Z h11 a1 "com/example/tillwire/tillwire/HttpFraming$BodyReader" "skip" "J" (.long q4) := (f10_1).same W11
  have f11_0 : Exa Z h11 a1 "com/example/tillwire/tillwire/HttpFraming$BodyReader" := (f10_0).wr W11
  have f11_1 : Fld Z h11 a1 "com/example/tillwire/tillwire/HttpFraming$BodyReader" "part" "Lcom/example/tillwire/tillwire/HttpFraming$BodyReader$Part;" .null := (f10_2).other W11 (Or.inr (slot_ne (Or.inl (hw _ (List.mem_of_getElem? (i := 77) rfl))) (Or.inr (hw _ (List.mem_of_getElem? (i := 71) rfl))) (by decide) (t := (.object "com/example/tillwire/tillwire/HttpFraming$BodyReader$Part")) (t' := .long) (by decide) (by decide)))
  have f11_2 : Fld Z h11 a1 "com/example/tillwire/tillwire/HttpFraming$BodyReader" "passed" "J" (.long (0 : Int64)) := (f10_3).other W11 (Or.inr (slot_ne (Or.inl (hw _ (List.mem_of_getElem? (i := 123) rfl))) (Or.inr (hw _ (List.mem_of_getElem? (i := 71) rfl))) (by decide) (t := .long) (t' := .long) (by decide) (by decide)))
  have f11_3 : Fld Z h11 a1 "com/example/tillwire/tillwire/HttpFraming$BodyReader" "left" "J" (.long (0 : Int64)) := (f10_4).other W11 (Or.inr (slot_ne (Or.inl (hw _ (List.mem_of_getElem? (i := 127) rfl))) (Or.inr (hw _ (List.mem_of_getElem? (i := 71) rfl))) (by decide) (t := .long) (t' := .long) (by decide) (by decide)))
  have f11_4 : Fld Z h11 a1 "com/example/tillwire/tillwire/HttpFraming$BodyReader" "skipped" "J" (.long (0 : Int64)) := (f10_5).other W11 (Or.inr (slot_ne (Or.inl (hw _ (List.mem_of_getElem? (i := 133) rfl))) (Or.inr (hw _ (List.mem_of_getElem? (i := 71) rfl))) (by decide) (t := .long) (t' := .long) (by decide) (by decide)))
  have f11_5 : Exa Z h11 b2 "java/io/ByteArrayOutputStream" := (f10_6).wr W11
  have f11_6 : Unt h11 b2 := Unt.wr W11 f10_7
  have f11_7 : Fld Z h11 b2 "java/io/ByteArrayOutputStream" "buf" "[B" (.ref b3_b1_b2) := (f10_8).other W11 (Or.inl (ne_exa f10_6 f10_0 (by decide)))
  have f11_8 : Fld Z h11 b2 "java/io/ByteArrayOutputStream" "count" "I" (.int (0 : Int32)) := (f10_9).other W11 (Or.inl (ne_exa f10_6 f10_0 (by decide)))
  have f11_9 : Exa Z h11 b3_b1_b2 "[B" := (f10_10).wr W11
  have f11_10 : Arv Z h11 b3_b1_b2 k3_k1_k2 .byte (32 : Int32) [] (.int (0 : Int32)) := (f10_11).other W11 (ne_exa f10_10 f10_0 (by decide))
  have f11_11 : Fld Z h11 a1 "com/example/tillwire/tillwire/HttpFraming$BodyReader" "kept" "Ljava/io/ByteArrayOutputStream;" (.ref b2) := (f10_12).other W11 (Or.inr (slot_ne (Or.inr (hw _ (List.mem_of_getElem? (i := 32) rfl))) (Or.inr (hw _ (List.mem_of_getElem? (i := 71) rfl))) (by decide) (t := (.object "java/io/ByteArrayOutputStream")) (t' := .long) (by decide) (by decide)))
  have f11_12 : Exa Z h11 b5 "com/example/tillwire/tillwire/HttpFraming$Line" := (f10_13).wr W11
  have f11_13 : Fld Z h11 a1 "com/example/tillwire/tillwire/HttpFraming$BodyReader" "line" "Lcom/example/tillwire/tillwire/HttpFraming$Line;" (.ref b5) := (f10_14).other W11 (Or.inr (slot_ne (Or.inr (hw _ (List.mem_of_getElem? (i := 62) rfl))) (Or.inr (hw _ (List.mem_of_getElem? (i := 71) rfl))) (by decide) (t := (.object "com/example/tillwire/tillwire/HttpFraming$Line")) (t' := .long) (by decide) (by decide)))
  have f11_14 : Fld Z h11 a1 "com/example/tillwire/tillwire/HttpFraming$BodyReader" "whole" "Z" (.int (1 : Int32)) := (f10_15).other W11 (Or.inr (slot_ne (Or.inl (hw _ (List.mem_of_getElem? (i := 64) rfl))) (Or.inr (hw _ (List.mem_of_getElem? (i := 71) rfl))) (by decide) (t := .boolean) (t' := .long) (by decide) (by decide)))
  have f11_15 : Fld Z h11 a1 "com/example/tillwire/tillwire/HttpFraming$BodyReader" "chunked" "Z" (.int (0 : Int32)) := (f10_16).other W11 (Or.inr (slot_ne (Or.inr (hw _ (List.mem_of_getElem? (i := 67) rfl))) (Or.inr (hw _ (List.mem_of_getElem? (i := 71) rfl))) (by decide) (t := .boolean) (t' := .long) (by decide) (by decide)))
  have f11_16 : Fld Z h11 a1 "com/example/tillwire/tillwire/HttpFraming$BodyReader" "keep" "I" (.int p3) := (fw10).other W11 (Or.inr (slot_ne (Or.inr (hw _ (List.mem_of_getElem? (i := 69) rfl))) (Or.inr (hw _ (List.mem_of_getElem? (i := 71) rfl))) (by decide) (t := .int) (t' := .long) (by decide) (by decide)))
  have O11 := O10.wr W11 g_a1
  have N11 := Fr.snoc X11 N10 g_a1
  have K11 : Keep h0 h11 [a1] := K10.wr W11 (Or.inl (List.mem_of_getElem? (i := 0) rfl))
  obtain ⟨T12, X12, e12, st12⟩ := getF X11 hx hZ hown (host := "") (Or.inl (hw _ (List.mem_of_getElem? (i := 66) rfl))) Via.refl e11 f11_15 (g := (mkF m 60 #[.val (.ref a1), .val (.long (-2 : Int64)), .second, .val (.int p3), .val (.long q4), .second, .unset, .unset] [(.ref a1)])) rfl rfl (hb hby d1_60)
  obtain ⟨T13, X13, e13, st13⟩ := getS2 X12 hx hZ hown (host := "") (Or.inl (hw _ (List.mem_of_getElem? (i := 73) rfl))) Via.refl e12 (S_n2.ext O11.2) (g := (mkF m 88 #[.val (.ref a1), .val (.long (-2 : Int64)), .second, .val (.int p3), .val (.long q4), .second, .unset, .unset] [(.ref a1)])) rfl (hb hby d1_88)
  obtain ⟨T14, h14, X14, e14, W14, st14⟩ := putF X13 hx hZ hown (host := "") (Or.inl (hw _ (List.mem_of_getElem? (i := 76) rfl))) Via.refl e13 f11_1 f11_0 (Or.inl (hw _ (List.mem_of_getElem? (i := 77) rfl))) (hw _ (List.mem_of_getElem? (i := 3) rfl)) (ty := (.object "com/example/tillwire/tillwire/HttpFraming$BodyReader$Part")) (by decide) rfl rfl (g := (mkF m 91 #[.val (.ref a1), .val (.long (-2 : Int64)), .second, .val (.int p3), .val (.long q4), .second, .unset, .unset] [(.ref w_n2), (.ref a1)])) rfl rfl (hb hby d1_91)
  have fw14 : Fld Z h14 a1 "com/example/tillwire/tillwire/HttpFraming$BodyReader" "part" "Lcom/example/tillwire/tillwire/HttpFraming$BodyReader$Part;" (.ref w_n2) := (f11_1).same W14
  have f14_0 : Exa Z h14 a1 "com/example/tillwire/tillwire/HttpFraming$BodyReader" := (f11_0).wr W14
  have f14_1 : Fld Z h14 a1 "com/example/tillwire/tillwire/HttpFraming$BodyReader" "passed" "J" (.long (0 : Int64)) := (f11_2).other W14 (Or.inr (slot_ne (Or.inl (hw _ (List.mem_of_getElem? (i := 123) rfl))) (Or.inl (hw _ (List.mem_of_getElem? (i := 77) rfl))) (by decide) (t := .long) (t' := (.object "com/example/tillwire/tillwire/HttpFraming$BodyReader$Part")) (by decide) (by decide)))
  have f14_2 : Fld Z h14 a1 "com/example/tillwire/tillwire/HttpFraming$BodyReader" "left" "J" (.long (0 : Int64)) := (f11_3).other W14 (Or.inr (slot_ne (Or.inl (hw _ (List.mem_of_getElem? (i := 127) rfl))) (Or.inl (hw _ (List.mem_of_getElem? (i := 77) rfl))) (by decide) (t := .long) (t' := (.object "com/example/tillwire/tillwire/HttpFraming$BodyReader$Part")) (by decide) (by decide)))
  have f14_3 : Fld Z h14 a1 "com/example/tillwire/tillwire/HttpFraming$BodyReader" "skipped" "J" (.long (0 : Int64)) := (f11_4).other W14 (Or.inr (slot_ne (Or.inl (hw _ (List.mem_of_getElem? (i := 133) rfl))) (Or.inl (hw _ (List.mem_of_getElem? (i := 77) rfl))) (by decide) (t := .long) (t' := (.object "com/example/tillwire/tillwire/HttpFraming$BodyReader$Part")) (by decide) (by decide)))
  have f14_4 : Exa Z h14 b2 "java/io/ByteArrayOutputStream" := (f11_5).wr W14
  have f14_5 : Unt h14 b2 := Unt.wr W14 f11_6
  have f14_6 : Fld Z h14 b2 "java/io/ByteArrayOutputStream" "buf" "[B" (.ref b3_b1_b2) := (f11_7).other W14 (Or.inl (ne_exa f11_5 f11_0 (by decide)))
  have f14_7 : Fld Z h14 b2 "java/io/ByteArrayOutputStream" "count" "I" (.int (0 : Int32)) := (f11_8).other W14 (Or.inl (ne_exa f11_5 f11_0 (by decide)))
  have f14_8 : Exa Z h14 b3_b1_b2 "[B" := (f11_9).wr W14
  have f14_9 : Arv Z h14 b3_b1_b2 k3_k1_k2 .byte (32 : Int32) [] (.int (0 : Int32)) := (f11_10).other W14 (ne_exa f11_9 f11_0 (by decide))
  have f14_10 : Fld Z h14 a1 "com/example/tillwire/tillwire/HttpFraming$BodyReader" "kept" "Ljava/io/ByteArrayOutputStream;" (.ref b2) := (f11_11).other W14 (Or.inr (slot_ne (Or.inr (hw _ (List.mem_of_getElem? (i := 32) rfl))) (Or.inl (hw _ (List.mem_of_getElem? (i := 77) rfl))) (by decide) (t := (.object "java/io/ByteArrayOutputStream")) (t' := (.object "com/example/tillwire/tillwire/HttpFraming$BodyReader$Part")) (by decide) (by decide)))
  have f14_11 : Exa Z h14 b5 "com/example/tillwire/tillwire/HttpFraming$Line" := (f11_12).wr W14
  have f14_12 : Fld Z h14 a1 "com/example/tillwire/tillwire/HttpFraming$BodyReader" "line" "Lcom/example/tillwire/tillwire/HttpFraming$Line;" (.ref b5) := (f11_13).other W14 (Or.inr (slot_ne (Or.inr (hw _ (List.mem_of_getElem? (i := 62) rfl))) (Or.inl (hw _ (List.mem_of_getElem? (i := 77) rfl))) (by decide) (t := (.object "com/example/tillwire/tillwire/HttpFraming$Line")) (t' := (.object "com/example/tillwire/tillwire/HttpFraming$BodyReader$Part")) (by decide) (by decide)))
  have f14_13 : Fld Z h14 a1 "com/example/tillwire/tillwire/HttpFraming$BodyReader" "whole" "Z" (.int (1 : Int32)) := (f11_14).other W14 (Or.inr (slot_ne (Or.inl (hw _ (List.mem_of_getElem? (i := 64) rfl))) (Or.inl (hw _ (List.mem_of_getElem? (i := 77) rfl))) (by decide) (t := .boolean) (t' := (.object "com/example/tillwire/tillwire/HttpFraming$BodyReader$Part")) (by decide) (by decide)))
  have f14_14 : Fld Z h14 a1 "com/example/tillwire/tillwire/HttpFraming$BodyReader" "chunked" "Z" (.int (0 : Int32)) := (f11_15).other W14 (Or.inr (slot_ne (Or.inr (hw _ (List.mem_of_getElem? (i := 67) rfl))) (Or.inl (hw _ (List.mem_of_getElem? (i := 77) rfl))) (by decide) (t := .boolean) (t' := (.object "com/example/tillwire/tillwire/HttpFraming$BodyReader$Part")) (by decide) (by decide)))
  have f14_15 : Fld Z h14 a1 "com/example/tillwire/tillwire/HttpFraming$BodyReader" "keep" "I" (.int p3) := (f11_16).other W14 (Or.inr (slot_ne (Or.inr (hw _ (List.mem_of_getElem? (i := 69) rfl))) (Or.inl (hw _ (List.mem_of_getElem? (i := 77) rfl))) (by decide) (t := .int) (t' := (.object "com/example/tillwire/tillwire/HttpFraming$BodyReader$Part")) (by decide) (by decide)))
  have f14_16 : Fld Z h14 a1 "com/example/tillwire/tillwire/HttpFraming$BodyReader" "skip" "J" (.long q4) := (fw11).other W14 (Or.inr (slot_ne (Or.inr (hw _ (List.mem_of_getElem? (i := 71) rfl))) (Or.inl (hw _ (List.mem_of_getElem? (i := 77) rfl))) (by decide) (t := .long) (t' := (.object "com/example/tillwire/tillwire/HttpFraming$BodyReader$Part")) (by decide) (by decide)))
  have O14 := O11.wr W14 g_a1
  have N14 := Fr.snoc X14 N11 g_a1
  have K14 : Keep h0 h14 [a1] := K11.wr W14 (Or.inl (List.mem_of_getElem? (i := 0) rfl))
  obtain ⟨fs, hr, hrun, hended, hW, hsame⟩ := X14.leave (v := none) (fun _ => rfl)
  refine ⟨_, _, pre0 _ ?_, hrun, hended, _, _, rfl, ?_, ⟨_, rfl⟩, hW, hsame.mono (by decide) (by decide)⟩
  · show Steps p.tables e below (s₁.setTop (mkF m 0 #[.val (.ref a1), .val (.long (-2 : Int64)), .second, .val (.int p3), .val (.long q4), .second, .unset, .unset] [])) _
    refine XS.aloadN X0.here hx rfl (hb hby d1_0) rfl rfl ?_
    show Steps p.tables e below (s₁.setTop (mkF m 1 #[.val (.ref a1), .val (.long (-2 : Int64)), .second, .val (.int p3), .val (.long q4), .second, .unset, .unset] [(.ref a1)])) _
    refine st1 _ ?_
    show Steps p.tables e below (T1.setTop (mkF m 4 #[.val (.ref a1), .val (.long (-2 : Int64)), .second, .val (.int p3), .val (.long q4), .second, .unset, .unset] [])) _
    refine XS.aloadN X1.here hx rfl (hb hby d1_4) rfl rfl ?_
    show Steps p.tables e below (T1.setTop (mkF m 5 #[.val (.ref a1), .val (.long (-2 : Int64)), .second, .val (.int p3), .val (.long q4), .second, .unset, .unset] [(.ref a1)])) _
    refine st2 _ ?_
    show Steps p.tables e below (T2.setTop (mkF m 8 #[.val (.ref a1), .val (.long (-2 : Int64)), .second, .val (.int p3), .val (.long q4), .second, .unset, .unset] [(.ref b2), (.ref a1)])) _
    refine XS.dup X2.here hx rfl (hb hby d1_8) rfl rfl ?_
    show Steps p.tables e below (T2.setTop (mkF m 9 #[.val (.ref a1), .val (.long (-2 : Int64)), .second, .val (.int p3), .val (.long q4), .second, .unset, .unset] [(.ref b2), (.ref b2), (.ref a1)])) _
    refine st3.trans ?_
    show Steps p.tables e below (T3.setTop (mkF m 12 #[.val (.ref a1), .val (.long (-2 : Int64)), .second, .val (.int p3), .val (.long q4), .second, .unset, .unset] [(.ref b2), (.ref a1)])) _
    refine st4 _ ?_
    show Steps p.tables e below (T4.setTop (mkF m 15 #[.val (.ref a1), .val (.long (-2 : Int64)), .second, .val (.int p3), .val (.long q4), .second, .unset, .unset] [])) _
    refine XS.aloadN X4.here hx rfl (hb hby d1_15) rfl rfl ?_
    show Steps p.tables e below (T4.setTop (mkF m 16 #[.val (.ref a1), .val (.long (-2 : Int64)), .second, .val (.int p3), .val (.long q4), .second, .unset, .unset] [(.ref a1)])) _
    refine st5 _ ?_
    show Steps p.tables e below (T5.setTop (mkF m 19 #[.val (.ref a1), .val (.long (-2 : Int64)), .second, .val (.int p3), .val (.long q4), .second, .unset, .unset] [(.ref b5), (.ref a1)])) _
    refine XS.dup X5.here hx rfl (hb hby d1_19) rfl rfl ?_
    show Steps p.tables e below (T5.setTop (mkF m 20 #[.val (.ref a1), .val (.long (-2 : Int64)), .second, .val (.int p3), .val (.long q4), .second, .unset, .unset] [(.ref b5), (.ref b5), (.ref a1)])) _
    refine st6.trans ?_
    show Steps p.tables e below (T6.setTop (mkF m 23 #[.val (.ref a1), .val (.long (-2 : Int64)), .second, .val (.int p3), .val (.long q4), .second, .unset, .unset] [(.ref b5), (.ref a1)])) _
    refine st7 _ ?_
    show Steps p.tables e below (T7.setTop (mkF m 26 #[.val (.ref a1), .val (.long (-2 : Int64)), .second, .val (.int p3), .val (.long q4), .second, .unset, .unset] [])) _
    refine XS.aloadN X7.here hx rfl (hb hby d1_26) rfl rfl ?_
    show Steps p.tables e below (T7.setTop (mkF m 27 #[.val (.ref a1), .val (.long (-2 : Int64)), .second, .val (.int p3), .val (.long q4), .second, .unset, .unset] [(.ref a1)])) _
    refine XS.iconst X7.here hx rfl (hb hby d1_27) ?_
    show Steps p.tables e below (T7.setTop (mkF m 28 #[.val (.ref a1), .val (.long (-2 : Int64)), .second, .val (.int p3), .val (.long q4), .second, .unset, .unset] [(.int (1 : Int32)), (.ref a1)])) _
    refine st8 _ ?_
    show Steps p.tables e below (T8.setTop (mkF m 31 #[.val (.ref a1), .val (.long (-2 : Int64)), .second, .val (.int p3), .val (.long q4), .second, .unset, .unset] [])) _
    refine XS.aloadN X8.here hx rfl (hb hby d1_31) rfl rfl ?_
    show Steps p.tables e below (T8.setTop (mkF m 32 #[.val (.ref a1), .val (.long (-2 : Int64)), .second, .val (.int p3), .val (.long q4), .second, .unset, .unset] [(.ref a1)])) _
    refine XS.lloadN X8.here hx rfl (hb hby d1_32) rfl ?_
    show Steps p.tables e below (T8.setTop (mkF m 33 #[.val (.ref a1), .val (.long (-2 : Int64)), .second, .val (.int p3), .val (.long q4), .second, .unset, .unset] [(.long (-2 : Int64)), (.ref a1)])) _
    refine X8.ldc2Long hx hown (mvT hZ (hw _ (List.mem_of_getElem? (i := 65) rfl))) (g := (mkF m 33 #[.val (.ref a1), .val (.long (-2 : Int64)), .second, .val (.int p3), .val (.long q4), .second, .unset, .unset] [(.long (-2 : Int64)), (.ref a1)])) rfl (hb hby d1_33) _ ?_
    show Steps p.tables e below (T8.setTop (mkF m 36 #[.val (.ref a1), .val (.long (-2 : Int64)), .second, .val (.int p3), .val (.long q4), .second, .unset, .unset] [(.long (-1 : Int64)), (.long (-2 : Int64)), (.ref a1)])) _
    refine XS.lcmp X8.here hx rfl (hb hby d1_36) rfl ?_
    show Steps p.tables e below (T8.setTop (mkF m 37 #[.val (.ref a1), .val (.long (-2 : Int64)), .second, .val (.int p3), .val (.long q4), .second, .unset, .unset] [(.int (lcmpW (-2 : Int64) (-1 : Int64))), (.ref a1)])) _
    rw [show (lcmpW (-2 : Int64) (-1 : Int64)) = (-1 : Int32) from by decide]
    show Steps p.tables e below (T8.setTop (mkF m 37 #[.val (.ref a1), .val (.long (-2 : Int64)), .second, .val (.int p3), .val (.long q4), .second, .unset, .unset] [(.int (-1 : Int32)), (.ref a1)])) _
    refine XS.ifYes X8.here hx rfl (pc0 := 37) (pc' := 44) rfl (hb hby d1_37) rfl ((if0 _ _).trans (feq ((by decide) : ¬ ((-1 : Int32) = (0 : Int32)))).2) (by decide) (by decide) ?_
    show Steps p.tables e below (T8.setTop (mkF m 44 #[.val (.ref a1), .val (.long (-2 : Int64)), .second, .val (.int p3), .val (.long q4), .second, .unset, .unset] [(.ref a1)])) _
    refine XS.iconst X8.here hx rfl (hb hby d1_44) ?_
    show Steps p.tables e below (T8.setTop (mkF m 45 #[.val (.ref a1), .val (.long (-2 : Int64)), .second, .val (.int p3), .val (.long q4), .second, .unset, .unset] [(.int (0 : Int32)), (.ref a1)])) _
    refine st9 _ ?_
    show Steps p.tables e below (T9.setTop (mkF m 48 #[.val (.ref a1), .val (.long (-2 : Int64)), .second, .val (.int p3), .val (.long q4), .second, .unset, .unset] [])) _
    refine XS.aloadN X9.here hx rfl (hb hby d1_48) rfl rfl ?_
    show Steps p.tables e below (T9.setTop (mkF m 49 #[.val (.ref a1), .val (.long (-2 : Int64)), .second, .val (.int p3), .val (.long q4), .second, .unset, .unset] [(.ref a1)])) _
    refine XS.iloadN X9.here hx rfl (hb hby d1_49) rfl ?_
    show Steps p.tables e below (T9.setTop (mkF m 50 #[.val (.ref a1), .val (.long (-2 : Int64)), .second, .val (.int p3), .val (.long q4), .second, .unset, .unset] [(.int p3), (.ref a1)])) _
    refine st10 _ ?_
    show Steps p.tables e below (T10.setTop (mkF m 53 #[.val (.ref a1), .val (.long (-2 : Int64)), .second, .val (.int p3), .val (.long q4), .second, .unset, .unset] [])) _
    refine XS.aloadN X10.here hx rfl (hb hby d1_53) rfl rfl ?_
    show Steps p.tables e below (T10.setTop (mkF m 54 #[.val (.ref a1), .val (.long (-2 : Int64)), .second, .val (.int p3), .val (.long q4), .second, .unset, .unset] [(.ref a1)])) _
    refine XS.lload X10.here hx rfl (hb hby d1_54) rfl ?_
    show Steps p.tables e below (T10.setTop (mkF m 56 #[.val (.ref a1), .val (.long (-2 : Int64)), .second, .val (.int p3), .val (.long q4), .second, .unset, .unset] [(.long q4), (.ref a1)])) _
    refine st11 _ ?_
    show Steps p.tables e below (T11.setTop (mkF m 59 #[.val (.ref a1), .val (.long (-2 : Int64)), .second, .val (.int p3), .val (.long q4), .second, .unset, .unset] [])) _
    refine XS.aloadN X11.here hx rfl (hb hby d1_59) rfl rfl ?_
    show Steps p.tables e below (T11.setTop (mkF m 60 #[.val (.ref a1), .val (.long (-2 : Int64)), .second, .val (.int p3), .val (.long q4), .second, .unset, .unset] [(.ref a1)])) _
    refine st12 _ ?_
    show Steps p.tables e below (T12.setTop (mkF m 63 #[.val (.ref a1), .val (.long (-2 : Int64)), .second, .val (.int p3), .val (.long q4), .second, .unset, .unset] [(.int (0 : Int32))])) _
    refine XS.ifYes X12.here hx rfl (pc0 := 63) (pc' := 79) rfl (hb hby d1_63) rfl ((if0 _ _).trans (teq ((by decide) : (0 : Int32) = (0 : Int32))).1) (by decide) (by decide) ?_
    show Steps p.tables e below (T12.setTop (mkF m 79 #[.val (.ref a1), .val (.long (-2 : Int64)), .second, .val (.int p3), .val (.long q4), .second, .unset, .unset] [])) _
    refine XS.lloadN X12.here hx rfl (hb hby d1_79) rfl ?_
    show Steps p.tables e below (T12.setTop (mkF m 80 #[.val (.ref a1), .val (.long (-2 : Int64)), .second, .val (.int p3), .val (.long q4), .second, .unset, .unset] [(.long (-2 : Int64))])) _
    refine X12.ldc2Long hx hown (mvT hZ (hw _ (List.mem_of_getElem? (i := 72) rfl))) (g := (mkF m 80 #[.val (.ref a1), .val (.long (-2 : Int64)), .second, .val (.int p3), .val (.long q4), .second, .unset, .unset] [(.long (-2 : Int64))])) rfl (hb hby d1_80) _ ?_
    show Steps p.tables e below (T12.setTop (mkF m 83 #[.val (.ref a1), .val (.long (-2 : Int64)), .second, .val (.int p3), .val (.long q4), .second, .unset, .unset] [(.long (-2 : Int64)), (.long (-2 : Int64))])) _
    refine XS.lcmp X12.here hx rfl (hb hby d1_83) rfl ?_
    show Steps p.tables e below (T12.setTop (mkF m 84 #[.val (.ref a1), .val (.long (-2 : Int64)), .second, .val (.int p3), .val (.long q4), .second, .unset, .unset] [(.int (lcmpW (-2 : Int64) (-2 : Int64)))])) _
    rw [show (lcmpW (-2 : Int64) (-2 : Int64)) = (0 : Int32) from by decide]
    show Steps p.tables e below (T12.setTop (mkF m 84 #[.val (.ref a1), .val (.long (-2 : Int64)), .second, .val (.int p3), .val (.long q4), .second, .unset, .unset] [(.int (0 : Int32))])) _
    refine XS.ifNo X12.here hx rfl (hb hby d1_84) rfl ((if0 _ _).trans (teq ((by decide) : (0 : Int32) = (0 : Int32))).2) ?_
    show Steps p.tables e below (T12.setTop (mkF m 87 #[.val (.ref a1), .val (.long (-2 : Int64)), .second, .val (.int p3), .val (.long q4), .second, .unset, .unset] [])) _
    refine XS.aloadN X12.here hx rfl (hb hby d1_87) rfl rfl ?_
    show Steps p.tables e below (T12.setTop (mkF m 88 #[.val (.ref a1), .val (.long (-2 : Int64)), .second, .val (.int p3), .val (.long q4), .second, .unset, .unset] [(.ref a1)])) _
    refine st13 _ ?_
    show Steps p.tables e below (T13.setTop (mkF m 91 #[.val (.ref a1), .val (.long (-2 : Int64)), .second, .val (.int p3), .val (.long q4), .second, .unset, .unset] [(.ref w_n2), (.ref a1)])) _
    refine st14 _ ?_
    show Steps p.tables e below (T14.setTop (mkF m 94 #[.val (.ref a1), .val (.long (-2 : Int64)), .second, .val (.int p3), .val (.long q4), .second, .unset, .unset] [])) _
    refine XS.goto X14.here hx rfl (pc0 := 94) (pc' := 130) rfl (hb hby d1_94) (by decide) (by decide) ?_
    show Steps p.tables e below (T14.setTop (mkF m 130 #[.val (.ref a1), .val (.long (-2 : Int64)), .second, .val (.int p3), .val (.long q4), .second, .unset, .unset] [])) _
    exact X14.returnOut hx Bd.returns (hb hby d1_130) hr
  · show QW (fun v h => ∃ b2 : Addr, ∃ b3_b1_b2 : Addr, ∃ k3_k1_k2 : ClassId, v = none ∧ Keep h0 h [a1] ∧ n0 ≤ b2 ∧ h0.size ≤ b2 ∧ n0 ≤ b3_b1_b2 ∧ h0.size ≤ b3_b1_b2 ∧ Exa Z h a1 "com/example/tillwire/tillwire/HttpFraming$BodyReader" ∧ Fld Z h a1 "com/example/tillwire/tillwire/HttpFraming$BodyReader" "kept" "Ljava/io/ByteArrayOutputStream;" (.ref b2) ∧ Fld Z h a1 "com/example/tillwire/tillwire/HttpFraming$BodyReader" "whole" "Z" (.int (1 : Int32)) ∧ Fld Z h a1 "com/example/tillwire/tillwire/HttpFraming$BodyReader" "part" "Lcom/example/tillwire/tillwire/HttpFraming$BodyReader$Part;" (.ref w_n2) ∧ Exa Z h b2 "java/io/ByteArrayOutputStream" ∧ Unt h b2 ∧ Fld Z h b2 "java/io/ByteArrayOutputStream" "buf" "[B" (.ref b3_b1_b2) ∧ Fld Z h b2 "java/io/ByteArrayOutputStream" "count" "I" (.int (0 : Int32)) ∧ Exa Z h b3_b1_b2 "[B" ∧ Arv Z h b3_b1_b2 k3_k1_k2 .byte (32 : Int32) [] (.int (0 : Int32))) n0 _ T14.heap _
    rw [e14]
    exact ⟨N14, ⟨b2, b3_b1_b2, k3_k1_k2, rfl, K14, g_b2, sz_b2, g_b3_b1_b2, sz_b3_b1_b2, f14_0, f14_10, f14_13, fw14, f14_4, f14_5, f14_6, f14_7, f14_8, f14_9⟩⟩
theorem d1_97 : decode prog_23_method_1_code 97 = .ok (.lload_n 1, 1) := by decide +kernel
theorem d1_98 : decode prog_23_method_1_code 98 = .ok (.iload_n 3, 1) := by decide +kernel
theorem d1_99 : decode prog_23_method_1_code 99 = .ok (.i2l, 1) := by decide +kernel
theorem d1_100 : decode prog_23_method_1_code 100 = .ok (.invokestatic 60, 3) := by decide +kernel
theorem d1_103 : decode prog_23_method_1_code 103 = .ok (.lstore 6, 2) := by decide +kernel
theorem d1_105 : decode prog_23_method_1_code 105 = .ok (.aload_n 0, 1) := by decide +kernel
theorem d1_106 : decode prog_23_method_1_code 106 = .ok (.lload_n 1, 1) := by decide +kernel
theorem d1_107 : decode prog_23_method_1_code 107 = .ok (.lload 6, 2) := by decide +kernel
theorem d1_109 : decode prog_23_method_1_code 109 = .ok (.lsub, 1) := by decide +kernel
theorem d1_110 : decode prog_23_method_1_code 110 = .ok (.putfield 66, 3) := by decide +kernel
theorem d1_113 : decode prog_23_method_1_code 113 = .ok (.aload_n 0, 1) := by decide +kernel
theorem d1_114 : decode prog_23_method_1_code 114 = .ok (.getstatic 69, 3) := by decide +kernel
theorem d1_117 : decode prog_23_method_1_code 117 = .ok (.putfield 57, 3) := by decide +kernel
theorem d1_120 : decode prog_23_method_1_code 120 = .ok (.aload_n 0, 1) := by decide +kernel
theorem d1_121 : decode prog_23_method_1_code 121 = .ok (.lload 6, 2) := by decide +kernel
theorem d1_123 : decode prog_23_method_1_code 123 = .ok (.putfield 72, 3) := by decide +kernel
theorem d1_126 : decode prog_23_method_1_code 126 = .ok (.aload_n 0, 1) := by decide +kernel
theorem d1_127 : decode prog_23_method_1_code 127 = .ok (.invokevirtual 75, 3) := by decide +kernel
theorem pd_2 : parseMethodDescriptor "(JJ)J" = some ⟨[.long, .long], some .long⟩ := by decide +kernel
set_option maxRecDepth 65536 in
set_option maxHeartbeats 40000000 in
theorem rm_n1a (l : Launch) (Z : State) (a0 : Array Value) (hw : ∀ d ∈ tables_1, d.before a0 Z = true) (ws : List Jvm.Cond) {w_n2 : Addr} {w_n3 : Addr} {w_n4 : Addr} {w_n1 : Addr} {v_n0 : Int32} (W : Wd Z w_n2 w_n3 w_n4 w_n1 v_n0) (a1 : Addr) (p3 : Int32) (q4 : Int64) (h0 : Heap) (n0 : Nat) (O0 : Old Z n0 h0) (xm : ¬ ((0 : Int32) < (lcmpW (0 : Int64) (p3.toInt64)))) (xk : ¬ ((0 : Int32) < (lcmpW (0 : Int64) q4))) (g_a1 : n0 ≤ a1) (hf0 : Exa Z h0 a1 "com/example/tillwire/tillwire/HttpFraming$BodyReader") (hf1 : Fld Z h0 a1 "com/example/tillwire/tillwire/HttpFraming$BodyReader" "kept" "Ljava/io/ByteArrayOutputStream;" .null) (hf2 : Fld Z h0 a1 "com/example/tillwire/tillwire/HttpFraming$BodyReader" "line" "Lcom/example/tillwire/tillwire/HttpFraming$Line;" .null) (hf3 : Fld Z h0 a1 "com/example/tillwire/tillwire/HttpFraming$BodyReader" "whole" "Z" (.int (0 : Int32))) (hf4 : Fld Z h0 a1 "com/example/tillwire/tillwire/HttpFraming$BodyReader" "chunked" "Z" (.int (0 : Int32))) (hf5 : Fld Z h0 a1 "com/example/tillwire/tillwire/HttpFraming$BodyReader" "keep" "I" (.int (0 : Int32))) (hf6 : Fld Z h0 a1 "com/example/tillwire/tillwire/HttpFraming$BodyReader" "skip" "J" (.long (0 : Int64))) (hf7 : Fld Z h0 a1 "com/example/tillwire/tillwire/HttpFraming$BodyReader" "part" "Lcom/example/tillwire/tillwire/HttpFraming$BodyReader$Part;" .null) (hf8 : Fld Z h0 a1 "com/example/tillwire/tillwire/HttpFraming$BodyReader" "passed" "J" (.long (0 : Int64))) (hf9 : Fld Z h0 a1 "com/example/tillwire/tillwire/HttpFraming$BodyReader" "left" "J" (.long (0 : Int64))) (hf10 : Fld Z h0 a1 "com/example/tillwire/tillwire/HttpFraming$BodyReader" "skipped" "J" (.long (0 : Int64))) :
    MetFree l (⟨"com/example/tillwire/tillwire/HttpFraming$BodyReader", "<init>", "(JIJ)V"⟩ : MethodName) (head1 (Jvm.Cond.code (⟨"com/example/tillwire/tillwire/HttpFraming$BodyReader", "<init>", "(JIJ)V"⟩ : MethodName) prog_23_method_1_code 8 none :: ws) ({ frames := 4, cells := 5, slots := 56, locals := 53 } : Room)) (fun a U => a = #[(.ref a1), (.long (0 : Int64)), (.int p3), (.long q4)] ∧ Z.Warmed39 U.vm ∧ U.heap = h0) (fun _ _ _ _ _ => True) (fun _ U o U' => ∃ v L, o = .returned v ∧ QW (fun v h => ∃ b2 : Addr, ∃ b3_b1_b2 : Addr, ∃ k3_k1_k2 : ClassId, v = none ∧ Keep h0 h [a1] ∧ n0 ≤ b2 ∧ h0.size ≤ b2 ∧ n0 ≤ b3_b1_b2 ∧ h0.size ≤ b3_b1_b2 ∧ Exa Z h a1 "com/example/tillwire/tillwire/HttpFraming$BodyReader" ∧ Fld Z h a1 "com/example/tillwire/tillwire/HttpFraming$BodyReader" "kept" "Ljava/io/ByteArrayOutputStream;" (.ref b2) ∧ Fld Z h a1 "com/example/tillwire/tillwire/HttpFraming$BodyReader" "whole" "Z" (.int (1 : Int32)) ∧ Fld Z h a1 "com/example/tillwire/tillwire/HttpFraming$BodyReader" "part" "Lcom/example/tillwire/tillwire/HttpFraming$BodyReader$Part;" (.ref w_n3) ∧ Exa Z h b2 "java/io/ByteArrayOutputStream" ∧ Unt h b2 ∧ Fld Z h b2 "java/io/ByteArrayOutputStream" "buf" "[B" (.ref b3_b1_b2) ∧ Fld Z h b2 "java/io/ByteArrayOutputStream" "count" "I" (.int (0 : Int32)) ∧ Exa Z h b3_b1_b2 "[B" ∧ Arv Z h b3_b1_b2 k3_k1_k2 .byte (32 : Int32) [] (.int (0 : Int32))) n0 v U'.heap L ∧ FrameEnd U o U' L ({ frames := 4, cells := 5, slots := 56, locals := 53 } : Room).cells ({ frames := 4, cells := 5, slots := 56, locals := 53 } : Room).slots) := by
  have W' := W; obtain ⟨S_n2, E_n2, S_n3, E_n3, S_n4, E_n4, S_n1, E_n1, S_n0, N_n0, F_n2_ordinal, F_n3_ordinal⟩ := W'
  refine MetFree.of_bodySF (plainFor_of_name pn_1) hisR ?_
  intro p e s m args below meth c s₁ Bd hml0 hP hK
  obtain ⟨rfl, hZ, hh⟩ := hP
  have hx := Bd.exec
  have hby := Bd.bytes
  have hml : c.maxLocals = 8 := hml0
  have hown : s.vm.findClass "com/example/tillwire/tillwire/HttpFraming$BodyReader" = some m.cls := findClass_of_methodNamed Bd.named
  have hnm := (name_of_methodNamed Bd.named Bd.method).1
  have X0 : Stand p l e ({ frames := 4, cells := 5, slots := 56, locals := 53 } : Room) s m #[(.ref a1), (.long (0 : Int64)), (.int p3), (.long q4)] below meth c s₁ [] 0 0 := Stand.of_body Bd
  have e0 : s₁.heap = h0 := by rw [← hh, Bd.state]; rfl
  have N0 := Fr.nil n0
  have pre0 : ∀ t, Steps p.tables e below (s₁.setTop (mkF m 0 #[.val (.ref a1), .val (.long (0 : Int64)), .second, .val (.int p3), .val (.long q4), .second, .unset, .unset] [])) t → Steps p.tables e below (s₁.setTop (entryFrame m #[(.ref a1), (.long (0 : Int64)), (.int p3), (.long q4)] 8)) t := fun t k => castTop (ef_1_10 m a1 (0 : Int64) p3 q4) k
  obtain ⟨T1, X1, e1, st1⟩ := initO X0 hx hZ hown (hw _ (List.mem_of_getElem? (i := 8) rfl)) (hw _ (List.mem_of_getElem? (i := 9) rfl)) (hw _ (List.mem_of_getElem? (i := 10) rfl)) e0 (g := (mkF m 1 #[.val (.ref a1), .val (.long (0 : Int64)), .second, .val (.int p3), .val (.long q4), .second, .unset, .unset] [(.ref a1)])) rfl (by rw [hml]; rfl) rfl (hb hby d1_1) (by decide) (W := 0) (by show 2 * 0 + _ ≤ _; exact Nat.le_of_eq rfl) (by decide)
  obtain ⟨T2, h2, X2, e2, E2, A2, D2, U2, st2⟩ := newO X1 hx hZ hown (hw _ (List.mem_of_getElem? (i := 11) rfl)) (hw _ (List.mem_of_getElem? (i := 12) rfl)) (hw _ (List.mem_of_getElem? (i := 13) rfl)) e1 (g := (mkF m 5 #[.val (.ref a1), .val (.long (0 : Int64)), .second, .val (.int p3), .val (.long q4), .second, .unset, .unset] [(.ref a1)])) rfl (hb hby d1_5) (by decide) (by decide)
  obtain ⟨b2, g2⟩ : ∃ z, z = h0.size := ⟨_, rfl⟩
  rw [← g2] at A2 D2 U2 st2
  have lt_a1_b2 : a1 < h0.size := (hf0).lt
  have g_b2 : n0 ≤ b2 := by rw [g2]; exact O0.1 ▸ O0.2.1
  have sz_b2 : h0.size ≤ b2 := by rw [g2]; exact (Keep.refl h0 [a1]).1
  have f2_0 : Exa Z h2 a1 "com/example/tillwire/tillwire/HttpFraming$BodyReader" := (hf0).ext E2
  have f2_1 : Fld Z h2 a1 "com/example/tillwire/tillwire/HttpFraming$BodyReader" "kept" "Ljava/io/ByteArrayOutputStream;" .null := (hf1).ext E2
  have f2_2 : Fld Z h2 a1 "com/example/tillwire/tillwire/HttpFraming$BodyReader" "line" "Lcom/example/tillwire/tillwire/HttpFraming$Line;" .null := (hf2).ext E2
  have f2_3 : Fld Z h2 a1 "com/example/tillwire/tillwire/HttpFraming$BodyReader" "whole" "Z" (.int (0 : Int32)) := (hf3).ext E2
  have f2_4 : Fld Z h2 a1 "com/example/tillwire/tillwire/HttpFraming$BodyReader" "chunked" "Z" (.int (0 : Int32)) := (hf4).ext E2
  have f2_5 : Fld Z h2 a1 "com/example/tillwire/tillwire/HttpFraming$BodyReader" "keep" "I" (.int (0 : Int32)) := (hf5).ext E2
  have f2_6 : Fld Z h2 a1 "com/example/tillwire/tillwire/HttpFraming$BodyReader" "skip" "J" (.long (0 : Int64)) := (hf6).ext E2
  have f2_7 : Fld Z h2 a1 "com/example/tillwire/tillwire/HttpFraming$BodyReader" "part" "Lcom/example/tillwire/tillwire/HttpFraming$BodyReader$Part;" .null := (hf7).ext E2
  have f2_8 : Fld Z h2 a1 "com/example/tillwire/tillwire/HttpFraming$BodyReader" "passed" "J" (.long (0 : Int64)) := (hf8).ext E2
  have f2_9 : Fld Z h2 a1 "com/example/tillwire/tillwire/HttpFraming$BodyReader" "left" "J" (.long (0 : Int64)) := (hf9).ext E2
  have f2_10 : Fld Z h2 a1 "com/example/tillwire/tillwire/HttpFraming$BodyReader" "skipped" "J" (.long (0 : Int64)) := (hf10).ext E2
  have O2 := O0.ext E2
  have K2 : Keep h0 h2 [a1] := (Keep.refl h0 [a1]).ext E2
  have f2_buf : Fld Z h2 b2 "java/io/ByteArrayOutputStream" "buf" "[B" .null := D2 (Or.inl (hw _ (List.mem_of_getElem? (i := 30) rfl))) (ty := (.array .byte)) (by decide)
  have f2_count : Fld Z h2 b2 "java/io/ByteArrayOutputStream" "count" "I" (.int (0 : Int32)) := D2 (Or.inl (hw _ (List.mem_of_getElem? (i := 106) rfl))) (ty := .int) (by decide)
  obtain ⟨_, _, ⟨T3, L3, k3, n3⟩, -, X3, ⟨Lc3, hQ3, l3, y3, z3⟩, st3⟩ := X2.specialBack hx (y := (⟨"java/io/ByteArrayOutputStream", "<init>", "()V"⟩ : MethodName)) rfl hown (mvT hZ (hw _ (List.mem_of_getElem? (i := 14) rfl))) (mvT hZ (hw _ (List.mem_of_getElem? (i := 15) rfl))) (mvT hZ (hw _ (List.mem_of_getElem? (i := 16) rfl))) (by decide) (backOf (W := 2) (rm_bo l Z a0 hw [] W b2 h2 n0 O2 g_b2 A2 U2 f2_buf f2_count) hZ (hw _ (List.mem_of_getElem? (i := 16) rfl)) (hw _ (List.mem_of_getElem? (i := 13) rfl)) (by decide) (by decide)) (g := (mkF m 9 #[.val (.ref a1), .val (.long (0 : Int64)), .second, .val (.int p3), .val (.long q4), .second, .unset, .unset] [(.ref b2), (.ref b2), (.ref a1)])) rfl (by rw [hml]; rfl) (Steps.refl _) (a := b2) (argsL := []) (rest := [(.ref b2), (.ref a1)]) (lenOf pd_0 rfl) rfl (by show 2 * 0 + _ ≤ _; exact Nat.le_of_eq rfl) (hb hby d1_9) (fun _ _ => ⟨rfl, e2, (by decide : 1 + 1 ≤ _), (by decide : 2 + 32 ≤ _)⟩)
  dsimp only [Pt.U, Pt.locs, Pt.cells, Pt.slots] at X3 l3 y3 z3 st3 hQ3
  subst l3 y3 z3
  obtain ⟨N3q, hP3⟩ := hQ3
  have N3 := Fr.app N0 N3q
  obtain ⟨b3_b1_b2, k3_k1_k2, rfl, Kp3, g_b3_b1_b2, si_b3_b1_b2, fp3_0, fp3_1, fp3_2, fp3_3, fp3_4, fp3_5⟩ := hP3
  have f3_0 : Exa Z T3.heap a1 "com/example/tillwire/tillwire/HttpFraming$BodyReader" := (f2_0).keep Kp3
  have f3_1 : Fld Z T3.heap a1 "com/example/tillwire/tillwire/HttpFraming$BodyReader" "kept" "Ljava/io/ByteArrayOutputStream;" .null := (f2_1).keep Kp3 (ninS (ne_exa f2_0 A2 (by decide)) nin0)
  have f3_2 : Fld Z T3.heap a1 "com/example/tillwire/tillwire/HttpFraming$BodyReader" "line" "Lcom/example/tillwire/tillwire/HttpFraming$Line;" .null := (f2_2).keep Kp3 (ninS (ne_exa f2_0 A2 (by decide)) nin0)
  have f3_3 : Fld Z T3.heap a1 "com/example/tillwire/tillwire/HttpFraming$BodyReader" "whole" "Z" (.int (0 : Int32)) := (f2_3).keep Kp3 (ninS (ne_exa f2_0 A2 (by decide)) nin0)
  have f3_4 : Fld Z T3.heap a1 "com/example/tillwire/tillwire/HttpFraming$BodyReader" "chunked" "Z" (.int (0 : Int32)) := (f2_4).keep Kp3 (ninS (ne_exa f2_0 A2 (by decide)) nin0)
  have f3_5 : Fld Z T3.heap a1 "com/example/tillwire/tillwire/HttpFraming$BodyReader" "keep" "I" (.int (0 : Int32)) := (f2_5).keep Kp3 (ninS (ne_exa f2_0 A2 (by decide)) nin0)
  have f3_6 : Fld Z T3.heap a1 "com/example/tillwire/tillwire/HttpFraming$BodyReader" "skip" "J" (.long (0 : Int64)) := (f2_6).keep Kp3 (ninS (ne_exa f2_0 A2 (by decide)) nin0)
  have f3_7 : Fld Z T3.heap a1 "com/example/tillwire/tillwire/HttpFraming$BodyReader" "part" "Lcom/example/tillwire/tillwire/HttpFraming$BodyReader$Part;" .null := (f2_7).keep Kp3 (ninS (ne_exa f2_0 A2 (by decide)) nin0)
  have f3_8 : Fld Z T3.heap a1 "com/example/tillwire/tillwire/HttpFraming$BodyReader" "passed" "J" (.long (0 : Int64)) := (f2_8).keep Kp3 (ninS (ne_exa f2_0 A2 (by decide)) nin0)
  have f3_9 : Fld Z T3.heap a1 "com/example/tillwire/tillwire/HttpFraming$BodyReader" "left" "J" (.long (0 : Int64)) := (f2_9).keep Kp3 (ninS (ne_exa f2_0 A2 (by decide)) nin0)
  have f3_10 : Fld Z T3.heap a1 "com/example/tillwire/tillwire/HttpFraming$BodyReader" "skipped" "J" (.long (0 : Int64)) := (f2_10).keep Kp3 (ninS (ne_exa f2_0 A2 (by decide)) nin0)
  have f3_11 : Exa Z T3.heap b2 "java/io/ByteArrayOutputStream" := (A2).keep Kp3
  have O3 := O2.keep Kp3 (allS g_b2 all0)
  have sz_b3_b1_b2 : h0.size ≤ b3_b1_b2 := Nat.le_trans (K2).1 si_b3_b1_b2
  have K3 : Keep h0 T3.heap [a1] := K2.trans Kp3 (allS (Or.inr sz_b2) all0)
  obtain ⟨T4, h4, X4, e4, W4, st4⟩ := putF X3 hx hZ hown (host := "") (Or.inl (hw _ (List.mem_of_getElem? (i := 31) rfl))) Via.refl rfl f3_1 f3_0 (Or.inr ⟨(hw _ (List.mem_of_getElem? (i := 32) rfl)), rfl, hnm⟩) (hw _ (List.mem_of_getElem? (i := 3) rfl)) (ty := (.object "java/io/ByteArrayOutputStream")) (by decide) rfl rfl (g := (mkF m 12 #[.val (.ref a1), .val (.long (0 : Int64)), .second, .val (.int p3), .val (.long q4), .second, .unset, .unset] [(.ref b2), (.ref a1)])) rfl rfl (hb hby d1_12)
  have fw4 : Fld Z h4 a1 "com/example/tillwire/tillwire/HttpFraming$BodyReader" "kept" "Ljava/io/ByteArrayOutputStream;" (.ref b2) := (f3_1).same W4
  have f4_0 : Exa Z h4 a1 "com/example/tillwire/tillwire/HttpFraming$BodyReader" := (f3_0).wr W4
  have f4_1 : Fld Z h4 a1 "com/example/tillwire/tillwire/HttpFraming$BodyReader" "line" "Lcom/example/tillwire/tillwire/HttpFraming$Line;" .null := (f3_2).other W4 (Or.inr (slot_ne (Or.inr (hw _ (List.mem_of_getElem? (i := 62) rfl))) (Or.inr (hw _ (List.mem_of_getElem? (i := 32) rfl))) (by decide) (t := (.object "com/example/tillwire/tillwire/HttpFraming$Line")) (t' := (.object "java/io/ByteArrayOutputStream")) (by decide) (by decide)))
  have f4_2 : Fld Z h4 a1 "com/example/tillwire/tillwire/HttpFraming$BodyReader" "whole" "Z" (.int (0 : Int32)) := (f3_3).other W4 (Or.inr (slot_ne (Or.inl (hw _ (List.mem_of_getElem? (i := 64) rfl))) (Or.inr (hw _ (List.mem_of_getElem? (i := 32) rfl))) (by decide) (t := .boolean) (t' := (.object "java/io/ByteArrayOutputStream")) (by decide) (by decide)))
  have f4_3 : Fld Z h4 a1 "com/example/tillwire/tillwire/HttpFraming$BodyReader" "chunked" "Z" (.int (0 : Int32)) := (f3_4).other W4 (Or.inr (slot_ne (Or.inr (hw _ (List.mem_of_getElem? (i := 67) rfl))) (Or.inr (hw _ (List.mem_of_getElem? (i := 32) rfl))) (by decide) (t := .boolean) (t' := (.object "java/io/ByteArrayOutputStream")) (by decide) (by decide)))
  have f4_4 : Fld Z h4 a1 "com/example/tillwire/tillwire/HttpFraming$BodyReader" "keep" "I" (.int (0 : Int32)) := (f3_5).other W4 (Or.inr (slot_ne (Or.inr (hw _ (List.mem_of_getElem? (i := 69) rfl))) (Or.inr (hw _ (List.mem_of_getElem? (i := 32) rfl))) (by decide) (t := .int) (t' := (.object "java/io/ByteArrayOutputStream")) (by decide) (by decide)))
  have f4_5 : Fld Z h4 a1 "com/example/tillwire/tillwire/HttpFraming$BodyReader" "skip" "J" (.long (0 : Int64)) := (f3_6).other W4 (Or.inr (slot_ne (Or.inr (hw _ (List.mem_of_getElem? (i := 71) rfl))) (Or.inr (hw _ (List.mem_of_getElem? (i := 32) rfl))) (by decide) (t := .long) (t' := (.object "java/io/ByteArrayOutputStream")) (by decide) (by decide)))
  have f4_6 : Fld Z h4 a1 "com/example/tillwire/tillwire/HttpFraming$BodyReader" "part" "Lcom/example/tillwire/tillwire/HttpFraming$BodyReader$Part;" .null := (f3_7).other W4 (Or.inr (slot_ne (Or.inl (hw _ (List.mem_of_getElem? (i := 77) rfl))) (Or.inr (hw _ (List.mem_of_getElem? (i := 32) rfl))) (by decide) (t := (.object "com/example/tillwire/tillwire/HttpFraming$BodyReader$Part")) (t' := (.object "java/io/ByteArrayOutputStream")) (by decide) (by decide)))
  have f4_7 : Fld Z h4 a1 "com/example/tillwire/tillwire/HttpFraming$BodyReader" "passed" "J" (.long (0 : Int64)) := (f3_8).other W4 (Or.inr (slot_ne (Or.inl (hw _ (List.mem_of_getElem? (i := 123) rfl))) (Or.inr (hw _ (List.mem_of_getElem? (i := 32) rfl))) (by decide) (t := .long) (t' := (.object "java/io/ByteArrayOutputStream")) (by decide) (by decide)))
  have f4_8 : Fld Z h4 a1 "com/example/tillwire/tillwire/HttpFraming$BodyReader" "left" "J" (.long (0 : Int64)) := (f3_9).other W4 (Or.inr (slot_ne (Or.inl (hw _ (List.mem_of_getElem? (i := 127) rfl))) (Or.inr (hw _ (List.mem_of_getElem? (i := 32) rfl))) (by decide) (t := .long) (t' := (.object "java/io/ByteArrayOutputStream")) (by decide) (by decide)))
  have f4_9 : Fld Z h4 a1 "com/example/tillwire/tillwire/HttpFraming$BodyReader" "skipped" "J" (.long (0 : Int64)) := (f3_10).other W4 (Or.inr (slot_ne (Or.inl (hw _ (List.mem_of_getElem? (i := 133) rfl))) (Or.inr (hw _ (List.mem_of_getElem? (i := 32) rfl))) (by decide) (t := .long) (t' := (.object "java/io/ByteArrayOutputStream")) (by decide) (by decide)))
  have f4_10 : Exa Z h4 b2 "java/io/ByteArrayOutputStream" := (fp3_0).wr W4
  have f4_11 : Unt h4 b2 := Unt.wr W4 fp3_1
  have f4_12 : Fld Z h4 b2 "java/io/ByteArrayOutputStream" "buf" "[B" (.ref b3_b1_b2) := (fp3_2).other W4 (Or.inl (ne_exa fp3_0 f3_0 (by decide)))
  have f4_13 : Fld Z h4 b2 "java/io/ByteArrayOutputStream" "count" "I" (.int (0 : Int32)) := (fp3_3).other W4 (Or.inl (ne_exa fp3_0 f3_0 (by decide)))
  have f4_14 : Exa Z h4 b3_b1_b2 "[B" := (fp3_4).wr W4
  have f4_15 : Arv Z h4 b3_b1_b2 k3_k1_k2 .byte (32 : Int32) [] (.int (0 : Int32)) := (fp3_5).other W4 (ne_exa fp3_4 f3_0 (by decide))
  have O4 := O3.wr W4 g_a1
  have N4 := Fr.snoc X4 N3 g_a1
  have K4 : Keep h0 h4 [a1] := K3.wr W4 (Or.inl (List.mem_of_getElem? (i := 0) rfl))
  obtain ⟨T5, h5, X5, e5, E5, A5, D5, U5, st5⟩ := newO X4 hx hZ hown (hw _ (List.mem_of_getElem? (i := 33) rfl)) (hw _ (List.mem_of_getElem? (i := 34) rfl)) (hw _ (List.mem_of_getElem? (i := 35) rfl)) e4 (g := (mkF m 16 #[.val (.ref a1), .val (.long (0 : Int64)), .second, .val (.int p3), .val (.long q4), .second, .unset, .unset] [(.ref a1)])) rfl (hb hby d1_16) (by decide) (by decide)
  obtain ⟨b5, g5⟩ : ∃ z, z = h4.size := ⟨_, rfl⟩
  rw [← g5] at A5 D5 U5 st5
  have lt_a1_b5 : a1 < h4.size := (f4_0).lt
  have lt_b2_b5 : b2 < h4.size := (f4_10).lt
  have lt_b3_b1_b2_b5 : b3_b1_b2 < h4.size := (f4_14).lt
  have g_b5 : n0 ≤ b5 := by rw [g5]; exact O4.1 ▸ O4.2.1
  have sz_b5 : h0.size ≤ b5 := by rw [g5]; exact K4.1
  have f5_0 : Exa Z h5 a1 "com/example/tillwire/tillwire/HttpFraming$BodyReader" := (f4_0).ext E5
  have f5_1 : Fld Z h5 a1 "com/example/tillwire/tillwire/HttpFraming$BodyReader" "line" "Lcom/example/tillwire/tillwire/HttpFraming$Line;" .null := (f4_1).ext E5
  have f5_2 : Fld Z h5 a1 "com/example/tillwire/tillwire/HttpFraming$BodyReader" "whole" "Z" (.int (0 : Int32)) := (f4_2).ext E5
  have f5_3 : Fld Z h5 a1 "com/example/tillwire/tillwire/HttpFraming$BodyReader" "chunked" "Z" (.int (0 : Int32)) := (f4_3).ext E5
  have f5_4 : Fld Z h5 a1 "com/example/tillwire/tillwire/HttpFraming$BodyReader" "keep" "I" (.int (0 : Int32)) := (f4_4).ext E5
  have f5_5 : Fld Z h5 a1 "com/example/tillwire/tillwire/HttpFraming$BodyReader" "skip" "J" (.long (0 : Int64)) := (f4_5).ext E5
  have f5_6 : Fld Z h5 a1 "com/example/tillwire/tillwire/HttpFraming$BodyReader" "part" "Lcom/example/tillwire/tillwire/HttpFraming$BodyReader$Part;" .null := (f4_6).ext E5
  have f5_7 : Fld Z h5 a1 "com/example/tillwire/tillwire/HttpFraming$BodyReader" "passed" "J" (.long (0 : Int64)) := (f4_7).ext E5
  have f5_8 : Fld Z h5 a1 "com/example/tillwire/tillwire/HttpFraming$BodyReader" "left" "J" (.long (0 : Int64)) := (f4_8).ext E5
  have f5_9 : Fld Z h5 a1 "com/example/tillwire/tillwire/HttpFraming$BodyReader" "skipped" "J" (.long (0 : Int64)) := (f4_9).ext E5
  have f5_10 : Exa Z h5 b2 "java/io/ByteArrayOutputStream" := (f4_10).ext E5
  have f5_11 : Unt h5 b2 := Unt.ext E5 f4_11
  have f5_12 : Fld Z h5 b2 "java/io/ByteArrayOutputStream" "buf" "[B" (.ref b3_b1_b2) := (f4_12).ext E5
  have f5_13 : Fld Z h5 b2 "java/io/ByteArrayOutputStream" "count" "I" (.int (0 : Int32)) := (f4_13).ext E5
  have f5_14 : Exa Z h5 b3_b1_b2 "[B" := (f4_14).ext E5
  have f5_15 : Arv Z h5 b3_b1_b2 k3_k1_k2 .byte (32 : Int32) [] (.int (0 : Int32)) := (f4_15).ext E5
  have f5_16 : Fld Z h5 a1 "com/example/tillwire/tillwire/HttpFraming$BodyReader" "kept" "Ljava/io/ByteArrayOutputStream;" (.ref b2) := (fw4).ext E5
  have O5 := O4.ext E5
  have K5 : Keep h0 h5 [a1] := K4.ext E5
  have f5_text : Fld Z h5 b5 "com/example/tillwire/tillwire/HttpFraming$Line" "text" "Ljava/lang/StringBuilder;" .null := D5 (Or.inr (hw _ (List.mem_of_getElem? (i := 60) rfl))) (ty := (.object "java/lang/StringBuilder")) (by decide)
  obtain ⟨_, _, ⟨T6, L6, k6, n6⟩, -, X6, ⟨Lc6, hQ6, l6, y6, z6⟩, st6⟩ := X5.specialBackNest hx (y := (⟨"com/example/tillwire/tillwire/HttpFraming$Line", "<init>", "()V"⟩ : MethodName)) rfl hown (Cond.methodLinkNest_wide hZ (hw _ (List.mem_of_getElem? (i := 36) rfl)) :) (mvT hZ (hw _ (List.mem_of_getElem? (i := 37) rfl))) (mvT hZ (hw _ (List.mem_of_getElem? (i := 38) rfl))) (by decide) (backOf (W := 2) (rm_ln l Z a0 hw [] W b5 h5 n0 O5 g_b5 A5 f5_text) hZ (hw _ (List.mem_of_getElem? (i := 38) rfl)) (hw _ (List.mem_of_getElem? (i := 35) rfl)) (by decide) (by decide)) (g := (mkF m 20 #[.val (.ref a1), .val (.long (0 : Int64)), .second, .val (.int p3), .val (.long q4), .second, .unset, .unset] [(.ref b5), (.ref b5), (.ref a1)])) rfl (by rw [hml]; rfl) (Steps.refl _) (a := b5) (argsL := []) (rest := [(.ref b5), (.ref a1)]) (lenOf pd_0 rfl) rfl (by show 2 * 0 + _ ≤ _; exact Nat.le_of_eq rfl) (hb hby d1_20) (fun _ _ => ⟨rfl, e5, (by decide : 3 + 2 ≤ _), (by decide : 36 + 20 ≤ _)⟩)
  dsimp only [Pt.U, Pt.locs, Pt.cells, Pt.slots] at X6 l6 y6 z6 st6 hQ6
  subst l6 y6 z6
  obtain ⟨N6q, hP6⟩ := hQ6
  have N6 := Fr.app N4 N6q
  obtain ⟨rfl, Kp6, fp6_0⟩ := hP6
  have f6_0 : Exa Z T6.heap a1 "com/example/tillwire/tillwire/HttpFraming$BodyReader" := (f5_0).keep Kp6
  have f6_1 : Fld Z T6.heap a1 "com/example/tillwire/tillwire/HttpFraming$BodyReader" "line" "Lcom/example/tillwire/tillwire/HttpFraming$Line;" .null := (f5_1).keep Kp6 (ninS (ne_exa f5_0 A5 (by decide)) nin0)
  have f6_2 : Fld Z T6.heap a1 "com/example/tillwire/tillwire/HttpFraming$BodyReader" "whole" "Z" (.int (0 : Int32)) := (f5_2).keep Kp6 (ninS (ne_exa f5_0 A5 (by decide)) nin0)
  have f6_3 : Fld Z T6.heap a1 "com/example/tillwire/tillwire/HttpFraming$BodyReader" "chunked" "Z" (.int (0 : Int32)) := (f5_3).keep Kp6 (ninS (ne_exa f5_0 A5 (by decide)) nin0)
  have f6_4 : Fld Z T6.heap a1 "com/example/tillwire/tillwire/HttpFraming$BodyReader" "keep" "I" (.int (0 : Int32)) := (f5_4).keep Kp6 (ninS (ne_exa f5_0 A5 (by decide)) nin0)
  have f6_5 : Fld Z T6.heap a1 "com/example/tillwire/tillwire/HttpFraming$BodyReader" "skip" "J" (.long (0 : Int64)) := (f5_5).keep Kp6 (ninS (ne_exa f5_0 A5 (by decide)) nin0)
  have f6_6 : Fld Z T6.heap a1 "com/example/tillwire/tillwire/HttpFraming$BodyReader" "part" "Lcom/example/tillwire/tillwire/HttpFraming$BodyReader$Part;" .null := (f5_6).keep Kp6 (ninS (ne_exa f5_0 A5 (by decide)) nin0)
  have f6_7 : Fld Z T6.heap a1 "com/example/tillwire/tillwire/HttpFraming$BodyReader" "passed" "J" (.long (0 : Int64)) := (f5_7).keep Kp6 (ninS (ne_exa f5_0 A5 (by decide)) nin0)
  have f6_8 : Fld Z T6.heap a1 "com/example/tillwire/tillwire/HttpFraming$BodyReader" "left" "J" (.long (0 : Int64)) := (f5_8).keep Kp6 (ninS (ne_exa f5_0 A5 (by decide)) nin0)
  have f6_9 : Fld Z T6.heap a1 "com/example/tillwire/tillwire/HttpFraming$BodyReader" "skipped" "J" (.long (0 : Int64)) := (f5_9).keep Kp6 (ninS (ne_exa f5_0 A5 (by decide)) nin0)
  have f6_10 : Exa Z T6.heap b2 "java/io/ByteArrayOutputStream" := (f5_10).keep Kp6
  have f6_11 : Unt T6.heap b2 := own_untk f5_11 Kp6 (ninS (ne_exa f5_10 A5 (by decide)) nin0)
  have f6_12 : Fld Z T6.heap b2 "java/io/ByteArrayOutputStream" "buf" "[B" (.ref b3_b1_b2) := (f5_12).keep Kp6 (ninS (ne_exa f5_10 A5 (by decide)) nin0)
  have f6_13 : Fld Z T6.heap b2 "java/io/ByteArrayOutputStream" "count" "I" (.int (0 : Int32)) := (f5_13).keep Kp6 (ninS (ne_exa f5_10 A5 (by decide)) nin0)
  have f6_14 : Exa Z T6.heap b3_b1_b2 "[B" := (f5_14).keep Kp6
  have f6_15 : Arv Z T6.heap b3_b1_b2 k3_k1_k2 .byte (32 : Int32) [] (.int (0 : Int32)) := (f5_15).keep Kp6 (ninS (ne_exa f5_14 A5 (by decide)) nin0)
  have f6_16 : Fld Z T6.heap a1 "com/example/tillwire/tillwire/HttpFraming$BodyReader" "kept" "Ljava/io/ByteArrayOutputStream;" (.ref b2) := (f5_16).keep Kp6 (ninS (ne_exa f5_0 A5 (by decide)) nin0)
  have f6_17 : Exa Z T6.heap b5 "com/example/tillwire/tillwire/HttpFraming$Line" := (A5).keep Kp6
  have O6 := O5.keep Kp6 (allS g_b5 all0)
  have K6 : Keep h0 T6.heap [a1] := K5.trans Kp6 (allS (Or.inr sz_b5) all0)
  obtain ⟨T7, h7, X7, e7, W7, st7⟩ := putF X6 hx hZ hown (host := "") (Or.inl (hw _ (List.mem_of_getElem? (i := 61) rfl))) Via.refl rfl f6_1 f6_0 (Or.inr ⟨(hw _ (List.mem_of_getElem? (i := 62) rfl)), rfl, hnm⟩) (hw _ (List.mem_of_getElem? (i := 3) rfl)) (ty := (.object "com/example/tillwire/tillwire/HttpFraming$Line")) (by decide) rfl rfl (g := (mkF m 23 #[.val (.ref a1), .val (.long (0 : Int64)), .second, .val (.int p3), .val (.long q4), .second, .unset, .unset] [(.ref b5), (.ref a1)])) rfl rfl (hb hby d1_23)
  have fw7 : Fld Z h7 a1 "com/example/tillwire/tillwire/HttpFraming$BodyReader" "line" "Lcom/example/tillwire/tillwire/HttpFraming$Line;" (.ref b5) := (f6_1).same W7
  have f7_0 : Exa Z h7 a1 "com/example/tillwire/tillwire/HttpFraming$BodyReader" := (f6_0).wr W7
  have f7_1 : Fld Z h7 a1 "com/example/tillwire/tillwire/HttpFraming$BodyReader" "whole" "Z" (.int (0 : Int32)) := (f6_2).other W7 (Or.inr (slot_ne (Or.inl (hw _ (List.mem_of_getElem? (i := 64) rfl))) (Or.inr (hw _ (List.mem_of_getElem? (i := 62) rfl))) (by decide) (t := .boolean) (t' := (.object "com/example/tillwire/tillwire/HttpFraming$Line")) (by decide) (by decide)))
  have f7_2 : Fld Z h7 a1 "com/example/tillwire/tillwire/HttpFraming$BodyReader" "chunked" "Z" (.int (0 : Int32)) := (f6_3).other W7 (Or.inr (slot_ne (Or.inr (hw _ (List.mem_of_getElem? (i := 67) rfl))) (Or.inr (hw _ (List.mem_of_getElem? (i := 62) rfl))) (by decide) (t := .boolean) (t' := (.object "com/example/tillwire/tillwire/HttpFraming$Line")) (by decide) (by decide)))
  have f7_3 : Fld Z h7 a1 "com/example/tillwire/tillwire/HttpFraming$BodyReader" "keep" "I" (.int (0 : Int32)) := (f6_4).other W7 (Or.inr (slot_ne (Or.inr (hw _ (List.mem_of_getElem? (i := 69) rfl))) (Or.inr (hw _ (List.mem_of_getElem? (i := 62) rfl))) (by decide) (t := .int) (t' := (.object "com/example/tillwire/tillwire/HttpFraming$Line")) (by decide) (by decide)))
  have f7_4 : Fld Z h7 a1 "com/example/tillwire/tillwire/HttpFraming$BodyReader" "skip" "J" (.long (0 : Int64)) := (f6_5).other W7 (Or.inr (slot_ne (Or.inr (hw _ (List.mem_of_getElem? (i := 71) rfl))) (Or.inr (hw _ (List.mem_of_getElem? (i := 62) rfl))) (by decide) (t := .long) (t' := (.object "com/example/tillwire/tillwire/HttpFraming$Line")) (by decide) (by decide)))
  have f7_5 : Fld Z h7 a1 "com/example/tillwire/tillwire/HttpFraming$BodyReader" "part" "Lcom/example/tillwire/tillwire/HttpFraming$BodyReader$Part;" .null := (f6_6).other W7 (Or.inr (slot_ne (Or.inl (hw _ (List.mem_of_getElem? (i := 77) rfl))) (Or.inr (hw _ (List.mem_of_getElem? (i := 62) rfl))) (by decide) (t := (.object "com/example/tillwire/tillwire/HttpFraming$BodyReader$Part")) (t' := (.object "com/example/tillwire/tillwire/HttpFraming$Line")) (by decide) (by decide)))
  have f7_6 : Fld Z h7 a1 "com/example/tillwire/tillwire/HttpFraming$BodyReader" "passed" "J" (.long (0 : Int64)) := (f6_7).other W7 (Or.inr (slot_ne (Or.inl (hw _ (List.mem_of_getElem? (i := 123) rfl))) (Or.inr (hw _ (List.mem_of_getElem? (i := 62) rfl))) (by decide) (t := .long) (t' := (.object "com/example/tillwire/tillwire/HttpFraming$Line")) (by decide) (by decide)))
  have f7_7 : Fld Z h7 a1 "com/example/tillwire/tillwire/HttpFraming$BodyReader" "left" "J" (.long (0 : Int64)) := (f6_8).other W7 (Or.inr (slot_ne (Or.inl (hw _ (List.mem_of_getElem? (i := 127) rfl))) (Or.inr (hw _ (List.mem_of_getElem? (i := 62) rfl))) (by decide) (t := .long) (t' := (.object "com/example/tillwire/tillwire/HttpFraming$Line")) (by decide) (by decide)))
  have f7_8 : Fld Z h7 a1 "com/example/tillwire/tillwire/HttpFraming$BodyReader" "skipped" "J" (.long (0 : Int64)) := (f6_9).other W7 (Or.inr (slot_ne (Or.inl (hw _ (List.mem_of_getElem? (i := 133) rfl))) (Or.inr (hw _ (List.mem_of_getElem? (i := 62) rfl))) (by decide) (t := .long) (t' := (.object "com/example/tillwire/tillwire/HttpFraming$Line")) (by decide) (by decide)))
  have f7_9 : Exa Z h7 b2 "java/io/ByteArrayOutputStream" := (f6_10).wr W7
  have f7_10 : Unt h7 b2 := Unt.wr W7 f6_11
  have f7_11 : Fld Z h7 b2 "java/io/ByteArrayOutputStream" "buf" "[B" (.ref b3_b1_b2) := (f6_12).other W7 (Or.inl (ne_exa f6_10 f6_0 (by decide)))
  have f7_12 : Fld Z h7 b2 "java/io/ByteArrayOutputStream" "count" "I" (.int (0 : Int32)) := (f6_13).other W7 (Or.inl (ne_exa f6_10 f6_0 (by decide)))
  have f7_13 : Exa Z h7 b3_b1_b2 "[B" := (f6_14).wr W7
  have f7_14 : Arv Z h7 b3_b1_b2 k3_k1_k2 .byte (32 : Int32) [] (.int (0 : Int32)) := (f6_15).other W7 (ne_exa f6_14 f6_0 (by decide))
  have f7_15 : Fld Z h7 a1 "com/example/tillwire/tillwire/HttpFraming$BodyReader" "kept" "Ljava/io/ByteArrayOutputStream;" (.ref b2) := (f6_16).other W7 (Or.inr (slot_ne (Or.inr (hw _ (List.mem_of_getElem? (i := 32) rfl))) (Or.inr (hw _ (List.mem_of_getElem? (i := 62) rfl))) (by decide) (t := (.object "java/io/ByteArrayOutputStream")) (t' := (.object "com/example/tillwire/tillwire/HttpFraming$Line")) (by decide) (by decide)))
  have f7_16 : Exa Z h7 b5 "com/example/tillwire/tillwire/HttpFraming$Line" := (fp6_0).wr W7
  have O7 := O6.wr W7 g_a1
  have N7 := Fr.snoc X7 N6 g_a1
  have K7 : Keep h0 h7 [a1] := K6.wr W7 (Or.inl (List.mem_of_getElem? (i := 0) rfl))
  obtain ⟨T8, h8, X8, e8, W8, st8⟩ := putFN X7 hx hZ hown (hw _ (List.mem_of_getElem? (i := 63) rfl)) Via.refl e7 f7_1 f7_0 (Or.inl (hw _ (List.mem_of_getElem? (i := 64) rfl))) (hw _ (List.mem_of_getElem? (i := 3) rfl)) (ty := .boolean) (v' := (.int (1 : Int32))) (by decide) rfl rfl (g := (mkF m 28 #[.val (.ref a1), .val (.long (0 : Int64)), .second, .val (.int p3), .val (.long q4), .second, .unset, .unset] [(.int (1 : Int32)), (.ref a1)])) rfl rfl (hb hby d1_28)
  have fw8 : Fld Z h8 a1 "com/example/tillwire/tillwire/HttpFraming$BodyReader" "whole" "Z" (.int (1 : Int32)) := (f7_1).same W8
  have f8_0 : Exa Z h8 a1 "com/example/tillwire/tillwire/HttpFraming$BodyReader" := (f7_0).wr W8
  have f8_1 : Fld Z h8 a1 "com/example/tillwire/tillwire/HttpFraming$BodyReader" "chunked" "Z" (.int (0 : Int32)) := (f7_2).other W8 (Or.inr (slot_ne (Or.inr (hw _ (List.mem_of_getElem? (i := 67) rfl))) (Or.inl (hw _ (List.mem_of_getElem? (i := 64) rfl))) (by decide) (t := .boolean) (t' := .boolean) (by decide) (by decide)))
  have f8_2 : Fld Z h8 a1 "com/example/tillwire/tillwire/HttpFraming$BodyReader" "keep" "I" (.int (0 : Int32)) := (f7_3).other W8 (Or.inr (slot_ne (Or.inr (hw _ (List.mem_of_getElem? (i := 69) rfl))) (Or.inl (hw _ (List.mem_of_getElem? (i := 64) rfl))) (by decide) (t := .int) (t' := .boolean) (by decide) (by decide)))
  have f8_3 : Fld Z h8 a1 "com/example/tillwire/tillwire/HttpFraming$BodyReader" "skip" "J" (.long (0 : Int64)) := (f7_4).other W8 (Or.inr (slot_ne (Or.inr (hw _ (List.mem_of_getElem? (i := 71) rfl))) (Or.inl (hw _ (List.mem_of_getElem? (i := 64) rfl))) (by decide) (t := .long) (t' := .boolean) (by decide) (by decide)))
  have f8_4 : Fld Z h8 a1 "com/example/tillwire/tillwire/HttpFraming$BodyReader" "part" "Lcom/example/tillwire/tillwire/HttpFraming$BodyReader$Part;" .null := (f7_5).other W8 (Or.inr (slot_ne (Or.inl (hw _ (List.mem_of_getElem? (i := 77) rfl))) (Or.inl (hw _ (List.mem_of_getElem? (i := 64) rfl))) (by decide) (t := (.object "com/example/tillwire/tillwire/HttpFraming$BodyReader$Part")) (t' := .boolean) (by decide) (by decide)))
  have f8_5 : Fld Z h8 a1 "com/example/tillwire/tillwire/HttpFraming$BodyReader" "passed" "J" (.long (0 : Int64)) := (f7_6).other W8 (Or.inr (slot_ne (Or.inl (hw _ (List.mem_of_getElem? (i := 123) rfl))) (Or.inl (hw _ (List.mem_of_getElem? (i := 64) rfl))) (by decide) (t := .long) (t' := .boolean) (by decide) (by decide)))
  have f8_6 : Fld Z h8 a1 "com/example/tillwire/tillwire/HttpFraming$BodyReader" "left" "J" (.long (0 : Int64)) := (f7_7).other W8 (Or.inr (slot_ne (Or.inl (hw _ (List.mem_of_getElem? (i := 127) rfl))) (Or.inl (hw _ (List.mem_of_getElem? (i := 64) rfl))) (by decide) (t := .long) (t' := .boolean) (by decide) (by decide)))
  have f8_7 : Fld Z h8 a1 "com/example/tillwire/tillwire/HttpFraming$BodyReader" "skipped" "J" (.long (0 : Int64)) := (f7_8).other W8 (Or.inr (slot_ne (Or.inl (hw _ (List.mem_of_getElem? (i := 133) rfl))) (Or.inl (hw _ (List.mem_of_getElem? (i := 64) rfl))) (by decide) (t := .long) (t' := .boolean) (by decide) (by decide)))
  have f8_8 : Exa Z h8 b2 "java/io/ByteArrayOutputStream" := (f7_9).wr W8
  have f8_9 : Unt h8 b2 := Unt.wr W8 f7_10
  have f8_10 : Fld Z h8 b2 "java/io/ByteArrayOutputStream" "buf" "[B" (.ref b3_b1_b2) := (f7_11).other W8 (Or.inl (ne_exa f7_9 f7_0 (by decide)))
  have f8_11 : Fld Z h8 b2 "java/io/ByteArrayOutputStream" "count" "I" (.int (0 : Int32)) := (f7_12).other W8 (Or.inl (ne_exa f7_9 f7_0 (by decide)))
  have f8_12 : Exa Z h8 b3_b1_b2 "[B" := (f7_13).wr W8
  have f8_13 : Arv Z h8 b3_b1_b2 k3_k1_k2 .byte (32 : Int32) [] (.int (0 : Int32)) := (f7_14).other W8 (ne_exa f7_13 f7_0 (by decide))
  have f8_14 : Fld Z h8 a1 "com/example/tillwire/tillwire/HttpFraming$BodyReader" "kept" "Ljava/io/ByteArrayOutputStream;" (.ref b2) := (f7_15).other W8 (Or.inr (slot_ne (Or.inr (hw _ (List.mem_of_getElem? (i := 32) rfl))) (Or.inl (hw _ (List.mem_of_getElem? (i := 64) rfl))) (by decide) (t := (.object "java/io/ByteArrayOutputStream")) (t' := .boolean) (by decide) (by decide)))
  have f8_15 : Exa Z h8 b5 "com/example/tillwire/tillwire/HttpFraming$Line" := (f7_16).wr W8
  have f8_16 : Fld Z h8 a1 "com/example/tillwire/tillwire/HttpFraming$BodyReader" "line" "Lcom/example/tillwire/tillwire/HttpFraming$Line;" (.ref b5) := (fw7).other W8 (Or.inr (slot_ne (Or.inr (hw _ (List.mem_of_getElem? (i := 62) rfl))) (Or.inl (hw _ (List.mem_of_getElem? (i := 64) rfl))) (by decide) (t := (.object "com/example/tillwire/tillwire/HttpFraming$Line")) (t' := .boolean) (by decide) (by decide)))
  have O8 := O7.wr W8 g_a1
  have N8 := Fr.snoc X8 N7 g_a1
  have K8 : Keep h0 h8 [a1] := K7.wr W8 (Or.inl (List.mem_of_getElem? (i := 0) rfl))
  obtain ⟨T9, h9, X9, e9, W9, st9⟩ := putFN X8 hx hZ hown (hw _ (List.mem_of_getElem? (i := 66) rfl)) Via.refl e8 f8_1 f8_0 (Or.inr ⟨(hw _ (List.mem_of_getElem? (i := 67) rfl)), rfl, hnm⟩) (hw _ (List.mem_of_getElem? (i := 3) rfl)) (ty := .boolean) (v' := (.int (0 : Int32))) (by decide) rfl rfl (g := (mkF m 45 #[.val (.ref a1), .val (.long (0 : Int64)), .second, .val (.int p3), .val (.long q4), .second, .unset, .unset] [(.int (0 : Int32)), (.ref a1)])) rfl rfl (hb hby d1_45)
  have fw9 : Fld Z h9 a1 "com/example/tillwire/tillwire/HttpFraming$BodyReader" "chunked" "Z" (.int (0 : Int32)) := (f8_1).same W9
  have f9_0 : Exa Z h9 a1 "com/example/tillwire/tillwire/HttpFraming$BodyReader" := (f8_0).wr W9
  have f9_1 : Fld Z h9 a1 "com/example/tillwire/tillwire/HttpFraming$BodyReader" "keep" "I" (.int (0 : Int32)) := (f8_2).other W9 (Or.inr (slot_ne (Or.inr (hw _ (List.mem_of_getElem? (i := 69) rfl))) (Or.inr (hw _ (List.mem_of_getElem? (i := 67) rfl))) (by decide) (t := .int) (t' := .boolean) (by decide) (by decide)))
  have f9_2 : Fld Z h9 a1 "com/example/tillwire/tillwire/HttpFraming$BodyReader" "skip" "J" (.long (0 : Int64)) := (f8_3).other W9 (Or.inr (slot_ne (Or.inr (hw _ (List.mem_of_getElem? (i := 71) rfl))) (Or.inr (hw _ (List.mem_of_getElem? (i := 67) rfl))) (by decide) (t := .long) (t' := .boolean) (by decide) (by decide)))
  have f9_3 : Fld Z h9 a1 "com/example/tillwire/tillwire/HttpFraming$BodyReader" "part" "Lcom/example/tillwire/tillwire/HttpFraming$BodyReader$Part;" .null := (f8_4).other W9 (Or.inr (slot_ne (Or.inl (hw _ (List.mem_of_getElem? (i := 77) rfl))) (Or.inr (hw _ (List.mem_of_getElem? (i := 67) rfl))) (by decide) (t := (.object "com/example/tillwire/tillwire/HttpFraming$BodyReader$Part")) (t' := .boolean) (by decide) (by decide)))
  have f9_4 : Fld Z h9 a1 "com/example/tillwire/tillwire/HttpFraming$BodyReader" "passed" "J" (.long (0 : Int64)) := (f8_5).other W9 (Or.inr (slot_ne (Or.inl (hw _ (List.mem_of_getElem? (i := 123) rfl))) (Or.inr (hw _ (List.mem_of_getElem? (i := 67) rfl))) (by decide) (t := .long) (t' := .boolean) (by decide) (by decide)))
  have f9_5 : Fld Z h9 a1 "com/example/tillwire/tillwire/HttpFraming$BodyReader" "left" "J" (.long (0 : Int64)) := (f8_6).other W9 (Or.inr (slot_ne (Or.inl (hw _ (List.mem_of_getElem? (i := 127) rfl))) (Or.inr (hw _ (List.mem_of_getElem? (i := 67) rfl))) (by decide) (t := .long) (t' := .boolean) (by decide) (by decide)))
  have f9_6 : Fld Z h9 a1 "com/example/tillwire/tillwire/HttpFraming$BodyReader" "skipped" "J" (.long (0 : Int64)) := (f8_7).other W9 (Or.inr (slot_ne (Or.inl (hw _ (List.mem_of_getElem? (i := 133) rfl))) (Or.inr (hw _ (List.mem_of_getElem? (i := 67) rfl))) (by decide) (t := .long) (t' := .boolean) (by decide) (by decide)))
  have f9_7 : Exa Z h9 b2 "java/io/ByteArrayOutputStream" := (f8_8).wr W9
  have f9_8 : Unt h9 b2 := Unt.wr W9 f8_9
  have f9_9 : Fld Z h9 b2 "java/io/ByteArrayOutputStream" "buf" "[B" (.ref b3_b1_b2) := (f8_10).other W9 (Or.inl (ne_exa f8_8 f8_0 (by decide)))
  have f9_10 : Fld Z h9 b2 "java/io/ByteArrayOutputStream" "count" "I" (.int (0 : Int32)) := (f8_11).other W9 (Or.inl (ne_exa f8_8 f8_0 (by decide)))
  have f9_11 : Exa Z h9 b3_b1_b2 "[B" := (f8_12).wr W9
  have f9_12 : Arv Z h9 b3_b1_b2 k3_k1_k2 .byte (32 : Int32) [] (.int (0 : Int32)) := (f8_13).other W9 (ne_exa f8_12 f8_0 (by decide))
  have f9_13 : Fld Z h9 a1 "com/example/tillwire/tillwire/HttpFraming$BodyReader" "kept" "Ljava/io/ByteArrayOutputStream;" (.ref b2) := (f8_14).other W9 (Or.inr (slot_ne (Or.inr (hw _ (List.mem_of_getElem? (i := 32) rfl))) (Or.inr (hw _ (List.mem_of_getElem? (i := 67) rfl))) (by decide) (t := (.object "java/io/ByteArrayOutputStream")) (t' := .boolean) (by decide) (by decide)))
  have f9_14 : Exa Z h9 b5 "com/example/tillwire/tillwire/HttpFraming$Line" := (f8_15).wr W9
  have f9_15 : Fld Z h9 a1 "com/example/tillwire/tillwire/HttpFraming$BodyReader" "line" "Lcom/example/tillwire/tillwire/HttpFraming$Line;" (.ref b5) := (f8_16).other W9 (Or.inr (slot_ne (Or.inr (hw _ (List.mem_of_getElem? (i := 62) rfl))) (Or.inr (hw _ (List.mem_of_getElem? (i := 67) rfl))) (by decide) (t := (.object "com/example/tillwire/tillwire/HttpFraming$Line")) (t' := .boolean) (by decide) (by decide)))
  have f9_16 : Fld Z h9 a1 "com/example/tillwire/tillwire/HttpFraming$BodyReader" "whole" "Z" (.int (1 : Int32)) := (fw8).other W9 (Or.inr (slot_ne (Or.inl (hw _ (List.mem_of_getElem? (i := 64) rfl))) (Or.inr (hw _ (List.mem_of_getElem? (i := 67) rfl))) (by decide) (t := .boolean) (t' := .boolean) (by decide) (by decide)))
  have O9 := O8.wr W9 g_a1
  have N9 := Fr.snoc X9 N8 g_a1
  have K9 : Keep h0 h9 [a1] := K8.wr W9 (Or.inl (List.mem_of_getElem? (i := 0) rfl))
  obtain ⟨T10, h10, X10, e10, W10, st10⟩ := putF X9 hx hZ hown (host := "") (Or.inl (hw _ (List.mem_of_getElem? (i := 68) rfl))) Via.refl e9 f9_1 f9_0 (Or.inr ⟨(hw _ (List.mem_of_getElem? (i := 69) rfl)), rfl, hnm⟩) (hw _ (List.mem_of_getElem? (i := 3) rfl)) (ty := .int) (by decide) rfl rfl (g := (mkF m 50 #[.val (.ref a1), .val (.long (0 : Int64)), .second, .val (.int p3), .val (.long q4), .second, .unset, .unset] [(.int p3), (.ref a1)])) rfl rfl (hb hby d1_50)
  have fw10 : Fld Z h10 a1 "com/example/tillwire/tillwire/HttpFraming$BodyReader" "keep" "I" (.int p3) := (f9_1).same W10
  have f10_0 : Exa Z h10 a1 "com/example/tillwire/tillwire/HttpFraming$BodyReader" := (f9_0).wr W10
  have f10_1 : Fld Z h10 a1 "com/example/tillwire/tillwire/HttpFraming$BodyReader" "skip" "J" (.long (0 : Int64)) := (f9_2).other W10 (Or.inr (slot_ne (Or.inr (hw _ (List.mem_of_getElem? (i := 71) rfl))) (Or.inr (hw _ (List.mem_of_getElem? (i := 69) rfl))) (by decide) (t := .long) (t' := .int) (by decide) (by decide)))
  have f10_2 : Fld Z h10 a1 "com/example/tillwire/tillwire/HttpFraming$BodyReader" "part" "Lcom/example/tillwire/tillwire/HttpFraming$BodyReader$Part;" .null := (f9_3).other W10 (Or.inr (slot_ne (Or.inl (hw _ (List.mem_of_getElem? (i := 77) rfl))) (Or.inr (hw _ (List.mem_of_getElem? (i := 69) rfl))) (by decide) (t := (.object "com/example/tillwire/tillwire/HttpFraming$BodyReader$Part")) (t' := .int) (by decide) (by decide)))
  have f10_3 : Fld Z h10 a1 "com/example/tillwire/tillwire/HttpFraming$BodyReader" "passed" "J" (.long (0 : Int64)) := (f9_4).other W10 (Or.inr (slot_ne (Or.inl (hw _ (List.mem_of_getElem? (i := 123) rfl))) (Or.inr (hw _ (List.mem_of_getElem? (i := 69) rfl))) (by decide) (t := .long) (t' := .int) (by decide) (by decide)))
  have f10_4 : Fld Z h10 a1 "com/example/tillwire/tillwire/HttpFraming$BodyReader" "left" "J" (.long (0 : Int64)) := (f9_5).other W10 (Or.inr (slot_ne (Or.inl (hw _ (List.mem_of_getElem? (i := 127) rfl))) (Or.inr (hw _ (List.mem_of_getElem? (i := 69) rfl))) (by decide) (t := .long) (t' := .int) (by decide) (by decide)))
  have f10_5 : Fld Z h10 a1 "com/example/tillwire/tillwire/HttpFraming$BodyReader" "skipped" "J" (.long (0 : Int64)) := (f9_6).other W10 (Or.inr (slot_ne (Or.inl (hw _ (List.mem_of_getElem? (i := 133) rfl))) (Or.inr (hw _ (List.mem_of_getElem? (i := 69) rfl))) (by decide) (t := .long) (t' := .int) (by decide) (by decide)))
  have f10_6 : Exa Z h10 b2 "java/io/ByteArrayOutputStream" := (f9_7).wr W10
  have f10_7 : Unt h10 b2 := Unt.wr W10 f9_8
  have f10_8 : Fld Z h10 b2 "java/io/ByteArrayOutputStream" "buf" "[B" (.ref b3_b1_b2) := (f9_9).other W10 (Or.inl (ne_exa f9_7 f9_0 (by decide)))
  have f10_9 : Fld Z h10 b2 "java/io/ByteArrayOutputStream" "count" "I" (.int (0 : Int32)) := (f9_10).other W10 (Or.inl (ne_exa f9_7 f9_0 (by decide)))
  have f10_10 : Exa Z h10 b3_b1_b2 "[B" := (f9_11).wr W10
  have f10_11 : Arv Z h10 b3_b1_b2 k3_k1_k2 .byte (32 : Int32) [] (.int (0 : Int32)) := (f9_12).other W10 (ne_exa f9_11 f9_0 (by decide))
  have f10_12 : Fld Z h10 a1 "com/example/tillwire/tillwire/HttpFraming$BodyReader" "kept" "Ljava/io/ByteArrayOutputStream;" (.ref b2) := (f9_13).other W10 (Or.inr (slot_ne (Or.inr (hw _ (List.mem_of_getElem? (i := 32) rfl))) (Or.inr (hw _ (List.mem_of_getElem? (i := 69) rfl))) (by decide) (t := (.object "java/io/ByteArrayOutputStream")) (t' := .int) (by decide) (by decide)))
  have f10_13 : Exa Z h10 b5 "com/example/tillwire/tillwire/HttpFraming$Line" := (f9_14).wr W10
  have f10_14 : Fld Z h10 a1 "com/example/tillwire/tillwire/HttpFraming$BodyReader" "line" "Lcom/example/tillwire/tillwire/HttpFraming$Line;" (.ref b5) := (f9_15).other W10 (Or.inr (slot_ne (Or.inr (hw _ (List.mem_of_getElem? (i := 62) rfl))) (Or.inr (hw _ (List.mem_of_getElem? (i := 69) rfl))) (by decide) (t := (.object "com/example/tillwire/tillwire/HttpFraming$Line")) (t' := .int) (by decide) (by decide)))
  have f10_15 : Fld Z h10 a1 "com/example/tillwire/tillwire/HttpFraming$BodyReader" "whole" "Z" (.int (1 : Int32)) := (f9_16).other W10 (Or.inr (slot_ne (Or.inl (hw _ (List.mem_of_getElem? (i := 64) rfl))) (Or.inr (hw _ (List.mem_of_getElem? (i := 69) rfl))) (by decide) (t := .boolean) (t' := .int) (by decide) (by decide)))
  have f10_16 : Fld Z h10 a1 "com/example/tillwire/tillwire/HttpFraming$BodyReader" "chunked" "Z" (.int (0 : Int32)) := (fw9).other W10 (Or.inr (slot_ne (Or.inr (hw _ (List.mem_of_getElem? (i := 67) rfl))) (Or.inr (hw _ (List.mem_of_getElem? (i := 69) rfl))) (by decide) (t := .boolean) (t' := .int) (by decide) (by decide)))
  have O10 := O9.wr W10 g_a1
  have N10 := Fr.snoc X10 N9 g_a1
  have K10 : Keep h0 h10 [a1] := K9.wr W10 (Or.inl (List.mem_of_getElem? (i := 0) rfl))
  obtain ⟨T11, h11, X11, e11, W11, st11⟩ := putF X10 hx hZ hown (host := "") (Or.inl (hw _ (List.mem_of_getElem? (i := 70) rfl))) Via.refl e10 f10_1 f10_0 (Or.inr ⟨(hw _ (List.mem_of_getElem? (i := 71) rfl)), rfl, hnm⟩) (hw _ (List.mem_of_getElem? (i := 3) rfl)) (ty := .long) (by decide) rfl rfl (g := (mkF m 56 #[.val (.ref a1), .val (.long (0 : Int64)), .second, .val (.int p3), .val (.long q4), .second, .unset, .unset] [(.long q4), (.ref a1)])) rfl rfl (hb hby d1_56)
  have fw11 : Fld Z h11 a1 "com/example/tillwire/tillwire/HttpFraming$BodyReader" "skip" "J" (.long q4) := (f10_1).same W11
  have f11_0 : Exa Z h11 a1 "com/example/tillwire/tillwire/HttpFraming$BodyReader" := (f10_0).wr W11
  have f11_1 : Fld Z h11 a1 "com/example/tillwire/tillwire/HttpFraming$BodyReader" "part" "Lcom/example/tillwire/tillwire/HttpFraming$BodyReader$Part;" .null := (f10_2).other W11 (Or.inr (slot_ne (Or.inl (hw _ (List.mem_of_getElem? (i := 77) rfl))) (Or.inr (hw _ (List.mem_of_getElem? (i := 71) rfl))) (by decide) (t := (.object "com/example/tillwire/tillwire/HttpFraming$BodyReader$Part")) (t' := .long) (by decide) (by decide)))
  have f11_2 : Fld Z h11 a1 "com/example/tillwire/tillwire/HttpFraming$BodyReader" "passed" "J" (.long (0 : Int64)) := (f10_3).other W11 (Or.inr (slot_ne (Or.inl (hw _ (List.mem_of_getElem? (i := 123) rfl))) (Or.inr (hw _ (List.mem_of_getElem? (i := 71) rfl))) (by decide) (t := .long) (t' := .long) (by decide) (by decide)))
  have f11_3 : Fld Z h11 a1 "com/example/tillwire/tillwire/HttpFraming$BodyReader" "left" "J" (.long (0 : Int64)) := (f10_4).other W11 (Or.inr (slot_ne (Or.inl (hw _ (List.mem_of_getElem? (i := 127) rfl))) (Or.inr (hw _ (List.mem_of_getElem? (i := 71) rfl))) (by decide) (t := .long) (t' := .long) (by decide) (by decide)))
  have f11_4 : Fld Z h11 a1 "com/example/tillwire/tillwire/HttpFraming$BodyReader" "skipped" "J" (.long (0 : Int64)) := (f10_5).other W11 (Or.inr (slot_ne (Or.inl (hw _ (List.mem_of_getElem? (i := 133) rfl))) (Or.inr (hw _ (List.mem_of_getElem? (i := 71) rfl))) (by decide) (t := .long) (t' := .long) (by decide) (by decide)))
  have f11_5 : Exa Z h11 b2 "java/io/ByteArrayOutputStream" := (f10_6).wr W11
  have f11_6 : Unt h11 b2 := Unt.wr W11 f10_7
  have f11_7 : Fld Z h11 b2 "java/io/ByteArrayOutputStream" "buf" "[B" (.ref b3_b1_b2) := (f10_8).other W11 (Or.inl (ne_exa f10_6 f10_0 (by decide)))
  have f11_8 : Fld Z h11 b2 "java/io/ByteArrayOutputStream" "count" "I" (.int (0 : Int32)) := (f10_9).other W11 (Or.inl (ne_exa f10_6 f10_0 (by decide)))
  have f11_9 : Exa Z h11 b3_b1_b2 "[B" := (f10_10).wr W11
  have f11_10 : Arv Z h11 b3_b1_b2 k3_k1_k2 .byte (32 : Int32) [] (.int (0 : Int32)) := (f10_11).other W11 (ne_exa f10_10 f10_0 (by decide))
  have f11_11 : Fld Z h11 a1 "com/example/tillwire/tillwire/HttpFraming$BodyReader" "kept" "Ljava/io/ByteArrayOutputStream;" (.ref b2) := (f10_12).other W11 (Or.inr (slot_ne (Or.inr (hw _ (List.mem_of_getElem? (i := 32) rfl))) (Or.inr (hw _ (List.mem_of_getElem? (i := 71) rfl))) (by decide) (t := (.object "java/io/ByteArrayOutputStream")) (t' := .long) (by decide) (by decide)))
  have f11_12 : Exa Z h11 b5 "com/example/tillwire/tillwire/HttpFraming$Line" := (f10_13).wr W11
  have f11_13 : Fld Z h11 a1 "com/example/tillwire/tillwire/HttpFraming$BodyReader" "line" "Lcom/example/tillwire/tillwire/HttpFraming$Line;" (.ref b5) := (f10_14).other W11 (Or.inr (slot_ne (Or.inr (hw _ (List.mem_of_getElem? (i := 62) rfl))) (Or.inr (hw _ (List.mem_of_getElem? (i := 71) rfl))) (by decide) (t := (.object "com/example/tillwire/tillwire/HttpFraming$Line")) (t' := .long) (by decide) (by decide)))
  have f11_14 : Fld Z h11 a1 "com/example/tillwire/tillwire/HttpFraming$BodyReader" "whole" "Z" (.int (1 : Int32)) := (f10_15).other W11 (Or.inr (slot_ne (Or.inl (hw _ (List.mem_of_getElem? (i := 64) rfl))) (Or.inr (hw _ (List.mem_of_getElem? (i := 71) rfl))) (by decide) (t := .boolean) (t' := .long) (by decide) (by decide)))
  have f11_15 : Fld Z h11 a1 "com/example/tillwire/tillwire/HttpFraming$BodyReader" "chunked" "Z" (.int (0 : Int32)) := (f10_16).other W11 (Or.inr (slot_ne (Or.inr (hw _ (List.mem_of_getElem? (i := 67) rfl))) (Or.inr (hw _ (List.mem_of_getElem? (i := 71) rfl))) (by decide) (t := .boolean) (t' := .long) (by decide) (by decide)))
  have f11_16 : Fld Z h11 a1 "com/example/tillwire/tillwire/HttpFraming$BodyReader" "keep" "I" (.int p3) := (fw10).other W11 (Or.inr (slot_ne (Or.inr (hw _ (List.mem_of_getElem? (i := 69) rfl))) (Or.inr (hw _ (List.mem_of_getElem? (i := 71) rfl))) (by decide) (t := .int) (t' := .long) (by decide) (by decide)))
  have O11 := O10.wr W11 g_a1
  have N11 := Fr.snoc X11 N10 g_a1
  have K11 : Keep h0 h11 [a1] := K10.wr W11 (Or.inl (List.mem_of_getElem? (i := 0) rfl))
  obtain ⟨T12, X12, e12, st12⟩ := getF X11 hx hZ hown (host := "") (Or.inl (hw _ (List.mem_of_getElem? (i := 66) rfl))) Via.refl e11 f11_15 (g := (mkF m 60 #[.val (.ref a1), .val (.long (0 : Int64)), .second, .val (.int p3), .val (.long q4), .second, .unset, .unset] [(.ref a1)])) rfl rfl (hb hby d1_60)
  obtain ⟨_, _, ⟨T13, L13, k13, n13⟩, -, X13, ⟨Lc13, hQ13, l13, y13, z13⟩, st13⟩ := Jvm.LawKit.callS X12 hx (y := (⟨"java/lang/Math", "min", "(JJ)J"⟩ : MethodName)) hown (mvT hZ (hw _ (List.mem_of_getElem? (i := 119) rfl))) (mvT hZ (hw _ (List.mem_of_getElem? (i := 120) rfl))) (mvT hZ (hw _ (List.mem_of_getElem? (i := 113) rfl))) (mvT hZ (hw _ (List.mem_of_getElem? (i := 121) rfl))) (by decide) (backOf (W := 0) (rm_min1 l Z a0 hw [] W (p3.toInt64) h11 n0 O11 xm) hZ (hw _ (List.mem_of_getElem? (i := 121) rfl)) (hw _ (List.mem_of_getElem? (i := 113) rfl)) (by decide) (by decide)) (g := (mkF m 100 #[.val (.ref a1), .val (.long (0 : Int64)), .second, .val (.int p3), .val (.long q4), .second, .unset, .unset] [(.long (p3.toInt64)), (.long (0 : Int64))])) rfl (by rw [hml]; rfl) (argsL := [(.long (0 : Int64)), (.long (p3.toInt64))]) (rest := []) (lenOf pd_2 rfl) rfl (by show 2 * 0 + _ ≤ _; exact Nat.le_of_eq rfl) (hb hby d1_100) (fun _ _ => ⟨rfl, e12, (by decide : 5 + 0 ≤ _), (by decide : 56 + 0 ≤ _)⟩)
  dsimp only [Pt.U, Pt.locs, Pt.cells, Pt.slots] at X13 l13 y13 z13 st13 hQ13
  subst l13 y13 z13
  obtain ⟨rfl, N13q, e13⟩ := hQ13
  have N13 := Fr.app N11 N13q
  obtain ⟨T14, h14, X14, e14, W14, st14⟩ := putF X13 hx hZ hown (host := "") (Or.inl (hw _ (List.mem_of_getElem? (i := 122) rfl))) Via.refl e13 f11_2 f11_0 (Or.inl (hw _ (List.mem_of_getElem? (i := 123) rfl))) (hw _ (List.mem_of_getElem? (i := 3) rfl)) (ty := .long) (by decide) rfl rfl (g := (mkF m 110 #[.val (.ref a1), .val (.long (0 : Int64)), .second, .val (.int p3), .val (.long q4), .second, .val (.long (0 : Int64)), .second] [(.long (0 : Int64)), (.ref a1)])) rfl rfl (hb hby d1_110)
  have fw14 : Fld Z h14 a1 "com/example/tillwire/tillwire/HttpFraming$BodyReader" "passed" "J" (.long (0 : Int64)) := (f11_2).same W14
  have f14_0 : Exa Z h14 a1 "com/example/tillwire/tillwire/HttpFraming$BodyReader" := (f11_0).wr W14
  have f14_1 : Fld Z h14 a1 "com/example/tillwire/tillwire/HttpFraming$BodyReader" "part" "Lcom/example/tillwire/tillwire/HttpFraming$BodyReader$Part;" .null := (f11_1).other W14 (Or.inr (slot_ne (Or.inl (hw _ (List.mem_of_getElem? (i := 77) rfl))) (Or.inl (hw _ (List.mem_of_getElem? (i := 123) rfl))) (by decide) (t := (.object "com/example/tillwire/tillwire/HttpFraming$BodyReader$Part")) (t' := .long) (by decide) (by decide)))
  have f14_2 : Fld Z h14 a1 "com/example/tillwire/tillwire/HttpFraming$BodyReader" "left" "J" (.long (0 : Int64)) := (f11_3).other W14 (Or.inr (slot_ne (Or.inl (hw _ (List.mem_of_getElem? (i := 127) rfl))) (Or.inl (hw _ (List.mem_of_getElem? (i := 123) rfl))) (by decide) (t := .long) (t' := .long) (by decide) (by decide)))
  have f14_3 : Fld Z h14 a1 "com/example/tillwire/tillwire/HttpFraming$BodyReader" "skipped" "J" (.long (0 : Int64)) := (f11_4).other W14 (Or.inr (slot_ne (Or.inl (hw _ (List.mem_of_getElem? (i := 133) rfl))) (Or.inl (hw _ (List.mem_of_getElem? (i := 123) rfl))) (by decide) (t := .long) (t' := .long) (by decide) (by decide)))
  have f14_4 : Exa Z h14 b2 "java/io/ByteArrayOutputStream" := (f11_5).wr W14
  have f14_5 : Unt h14 b2 := Unt.wr W14 f11_6
  have f14_6 : Fld Z h14 b2 "java/io/ByteArrayOutputStream" "buf" "[B" (.ref b3_b1_b2) := (f11_7).other W14 (Or.inl (ne_exa f11_5 f11_0 (by decide)))
  have f14_7 : Fld Z h14 b2 "java/io/ByteArrayOutputStream" "count" "I" (.int (0 : Int32)) := (f11_8).other W14 (Or.inl (ne_exa f11_5 f11_0 (by decide)))
  have f14_8 : Exa Z h14 b3_b1_b2 "[B" := (f11_9).wr W14
  have f14_9 : Arv Z h14 b3_b1_b2 k3_k1_k2 .byte (32 : Int32) [] (.int (0 : Int32)) := (f11_10).other W14 (ne_exa f11_9 f11_0 (by decide))
  have f14_10 : Fld Z h14 a1 "com/example/tillwire/tillwire/HttpFraming$BodyReader" "kept" "Ljava/io/ByteArrayOutputStream;" (.ref b2) := (f11_11).other W14 (Or.inr (slot_ne (Or.inr (hw _ (List.mem_of_getElem? (i := 32) rfl))) (Or.inl (hw _ (List.mem_of_getElem? (i := 123) rfl))) (by decide) (t := (.object "java/io/ByteArrayOutputStream")) (t' := .long) (by decide) (by decide)))
  have f14_11 : Exa Z h14 b5 "com/example/tillwire/tillwire/HttpFraming$Line" := (f11_12).wr W14
  have f14_12 : Fld Z h14 a1 "com/example/tillwire/tillwire/HttpFraming$BodyReader" "line" "Lcom/example/tillwire/tillwire/HttpFraming$Line;" (.ref b5) := (f11_13).other W14 (Or.inr (slot_ne (Or.inr (hw _ (List.mem_of_getElem? (i := 62) rfl))) (Or.inl (hw _ (List.mem_of_getElem? (i := 123) rfl))) (by decide) (t := (.object "com/example/tillwire/tillwire/HttpFraming$Line")) (t' := .long) (by decide) (by decide)))
  have f14_13 : Fld Z h14 a1 "com/example/tillwire/tillwire/HttpFraming$BodyReader" "whole" "Z" (.int (1 : Int32)) := (f11_14).other W14 (Or.inr (slot_ne (Or.inl (hw _ (List.mem_of_getElem? (i := 64) rfl))) (Or.inl (hw _ (List.mem_of_getElem? (i := 123) rfl))) (by decide) (t := .boolean) (t' := .long) (by decide) (by decide)))
  have f14_14 : Fld Z h14 a1 "com/example/tillwire/tillwire/HttpFraming$BodyReader" "chunked" "Z" (.int (0 : Int32)) := (f11_15).other W14 (Or.inr (slot_ne (Or.inr (hw _ (List.mem_of_getElem? (i := 67) rfl))) (Or.inl (hw _ (List.mem_of_getElem? (i := 123) rfl))) (by decide) (t := .boolean) (t' := .long) (by decide) (by decide)))
  have f14_15 : Fld Z h14 a1 "com/example/tillwire/tillwire/HttpFraming$BodyReader" "keep" "I" (.int p3) := (f11_16).other W14 (Or.inr (slot_ne (Or.inr (hw _ (List.mem_of_getElem? (i := 69) rfl))) (Or.inl (hw _ (List.mem_of_getElem? (i := 123) rfl))) (by decide) (t := .int) (t' := .long) (by decide) (by decide)))
  have f14_16 : Fld Z h14 a1 "com/example/tillwire/tillwire/HttpFraming$BodyReader" "skip" "J" (.long q4) := (fw11).other W14 (Or.inr (slot_ne (Or.inr (hw _ (List.mem_of_getElem? (i := 71) rfl))) (Or.inl (hw _ (List.mem_of_getElem? (i := 123) rfl))) (by decide) (t := .long) (t' := .long) (by decide) (by decide)))
  have O14 := O11.wr W14 g_a1
  have N14 := Fr.snoc X14 N13 g_a1
  have K14 : Keep h0 h14 [a1] := K11.wr W14 (Or.inl (List.mem_of_getElem? (i := 0) rfl))
  obtain ⟨T15, X15, e15, st15⟩ := getS2 X14 hx hZ hown (host := "") (Or.inl (hw _ (List.mem_of_getElem? (i := 124) rfl))) Via.refl e14 (S_n4.ext O14.2) (g := (mkF m 114 #[.val (.ref a1), .val (.long (0 : Int64)), .second, .val (.int p3), .val (.long q4), .second, .val (.long (0 : Int64)), .second] [(.ref a1)])) rfl (hb hby d1_114)
  obtain ⟨T16, h16, X16, e16, W16, st16⟩ := putF X15 hx hZ hown (host := "") (Or.inl (hw _ (List.mem_of_getElem? (i := 76) rfl))) Via.refl e15 f14_1 f14_0 (Or.inl (hw _ (List.mem_of_getElem? (i := 77) rfl))) (hw _ (List.mem_of_getElem? (i := 3) rfl)) (ty := (.object "com/example/tillwire/tillwire/HttpFraming$BodyReader$Part")) (by decide) rfl rfl (g := (mkF m 117 #[.val (.ref a1), .val (.long (0 : Int64)), .second, .val (.int p3), .val (.long q4), .second, .val (.long (0 : Int64)), .second] [(.ref w_n4), (.ref a1)])) rfl rfl (hb hby d1_117)
  have fw16 : Fld Z h16 a1 "com/example/tillwire/tillwire/HttpFraming$BodyReader" "part" "Lcom/example/tillwire/tillwire/HttpFraming$BodyReader$Part;" (.ref w_n4) := (f14_1).same W16
  have f16_0 : Exa Z h16 a1 "com/example/tillwire/tillwire/HttpFraming$BodyReader" := (f14_0).wr W16
  have f16_1 : Fld Z h16 a1 "com/example/tillwire/tillwire/HttpFraming$BodyReader" "left" "J" (.long (0 : Int64)) := (f14_2).other W16 (Or.inr (slot_ne (Or.inl (hw _ (List.mem_of_getElem? (i := 127) rfl))) (Or.inl (hw _ (List.mem_of_getElem? (i := 77) rfl))) (by decide) (t := .long) (t' := (.object "com/example/tillwire/tillwire/HttpFraming$BodyReader$Part")) (by decide) (by decide)))
  have f16_2 : Fld Z h16 a1 "com/example/tillwire/tillwire/HttpFraming$BodyReader" "skipped" "J" (.long (0 : Int64)) := (f14_3).other W16 (Or.inr (slot_ne (Or.inl (hw _ (List.mem_of_getElem? (i := 133) rfl))) (Or.inl (hw _ (List.mem_of_getElem? (i := 77) rfl))) (by decide) (t := .long) (t' := (.object "com/example/tillwire/tillwire/HttpFraming$BodyReader$Part")) (by decide) (by decide)))
  have f16_3 : Exa Z h16 b2 "java/io/ByteArrayOutputStream" := (f14_4).wr W16
  have f16_4 : Unt h16 b2 := Unt.wr W16 f14_5
  have f16_5 : Fld Z h16 b2 "java/io/ByteArrayOutputStream" "buf" "[B" (.ref b3_b1_b2) := (f14_6).other W16 (Or.inl (ne_exa f14_4 f14_0 (by decide)))
  have f16_6 : Fld Z h16 b2 "java/io/ByteArrayOutputStream" "count" "I" (.int (0 : Int32)) := (f14_7).other W16 (Or.inl (ne_exa f14_4 f14_0 (by decide)))
  have f16_7 : Exa Z h16 b3_b1_b2 "[B" := (f14_8).wr W16
  have f16_8 : Arv Z h16 b3_b1_b2 k3_k1_k2 .byte (32 : Int32) [] (.int (0 : Int32)) := (f14_9).other W16 (ne_exa f14_8 f14_0 (by decide))
  have f16_9 : Fld Z h16 a1 "com/example/tillwire/tillwire/HttpFraming$BodyReader" "kept" "Ljava/io/ByteArrayOutputStream;" (.ref b2) := (f14_10).other W16 (Or.inr (slot_ne (Or.inr (hw _ (List.mem_of_getElem? (i := 32) rfl))) (Or.inl (hw _ (List.mem_of_getElem? (i := 77) rfl))) (by decide) (t := (.object "java/io/ByteArrayOutputStream")) (t' := (.object "com/example/tillwire/tillwire/HttpFraming$BodyReader$Part")) (by decide) (by decide)))
  have f16_10 : Exa Z h16 b5 "com/example/tillwire/tillwire/HttpFraming$Line" := (f14_11).wr W16
  have f16_11 : Fld Z h16 a1 "com/example/tillwire/tillwire/HttpFraming$BodyReader" "line" "Lcom/example/tillwire/tillwire/HttpFraming$Line;" (.ref b5) := (f14_12).other W16 (Or.inr (slot_ne (Or.inr (hw _ (List.mem_of_getElem? (i := 62) rfl))) (Or.inl (hw _ (List.mem_of_getElem? (i := 77) rfl))) (by decide) (t := (.object "com/example/tillwire/tillwire/HttpFraming$Line")) (t' := (.object "com/example/tillwire/tillwire/HttpFraming$BodyReader$Part")) (by decide) (by decide)))
  have f16_12 : Fld Z h16 a1 "com/example/tillwire/tillwire/HttpFraming$BodyReader" "whole" "Z" (.int (1 : Int32)) := (f14_13).other W16 (Or.inr (slot_ne (Or.inl (hw _ (List.mem_of_getElem? (i := 64) rfl))) (Or.inl (hw _ (List.mem_of_getElem? (i := 77) rfl))) (by decide) (t := .boolean) (t' := (.object "com/example/tillwire/tillwire/HttpFraming$BodyReader$Part")) (by decide) (by decide)))
  have f16_13 : Fld Z h16 a1 "com/example/tillwire/tillwire/HttpFraming$BodyReader" "chunked" "Z" (.int (0 : Int32)) := (f14_14).other W16 (Or.inr (slot_ne (Or.inr (hw _ (List.mem_of_getElem? (i := 67) rfl))) (Or.inl (hw _ (List.mem_of_getElem? (i := 77) rfl))) (by decide) (t := .boolean) (t' := (.object "com/example/tillwire/tillwire/HttpFraming$BodyReader$Part")) (by decide) (by decide)))
  have f16_14 : Fld Z h16 a1 "com/example/tillwire/tillwire/HttpFraming$BodyReader" "keep" "I" (.int p3) := (f14_15).other W16 (Or.inr (slot_ne (Or.inr (hw _ (List.mem_of_getElem? (i := 69) rfl))) (Or.inl (hw _ (List.mem_of_getElem? (i := 77) rfl))) (by decide) (t := .int) (t' := (.object "com/example/tillwire/tillwire/HttpFraming$BodyReader$Part")) (by decide) (by decide)))
  have f16_15 : Fld Z h16 a1 "com/example/tillwire/tillwire/HttpFraming$BodyReader" "skip" "J" (.long q4) := (f14_16).other W16 (Or.inr (slot_ne (Or.inr (hw _ (List.mem_of_getElem? (i := 71) rfl))) (Or.inl (hw _ (List.mem_of_getElem? (i := 77) rfl))) (by decide) (t := .long) (t' := (.object "com/example/tillwire/tillwire/HttpFraming$BodyReader$Part")) (by decide) (by decide)))
  have f16_16 : Fld Z h16 a1 "com/example/tillwire/tillwire/HttpFraming$BodyReader" "passed" "J" (.long (0 : Int64)) := (fw14).other W16 (Or.inr (slot_ne (Or.inl (hw _ (List.mem_of_getElem? (i := 123) rfl))) (Or.inl (hw _ (List.mem_of_getElem? (i := 77) rfl))) (by decide) (t := .long) (t' := (.object "com/example/tillwire/tillwire/HttpFraming$BodyReader$Part")) (by decide) (by decide)))
  have O16 := O14.wr W16 g_a1
  have N16 := Fr.snoc X16 N14 g_a1
  have K16 : Keep h0 h16 [a1] := K14.wr W16 (Or.inl (List.mem_of_getElem? (i := 0) rfl))
  obtain ⟨T17, h17, X17, e17, W17, st17⟩ := putF X16 hx hZ hown (host := "") (Or.inl (hw _ (List.mem_of_getElem? (i := 126) rfl))) Via.refl e16 f16_1 f16_0 (Or.inl (hw _ (List.mem_of_getElem? (i := 127) rfl))) (hw _ (List.mem_of_getElem? (i := 3) rfl)) (ty := .long) (by decide) rfl rfl (g := (mkF m 123 #[.val (.ref a1), .val (.long (0 : Int64)), .second, .val (.int p3), .val (.long q4), .second, .val (.long (0 : Int64)), .second] [(.long (0 : Int64)), (.ref a1)])) rfl rfl (hb hby d1_123)
  have fw17 : Fld Z h17 a1 "com/example/tillwire/tillwire/HttpFraming$BodyReader" "left" "J" (.long (0 : Int64)) := (f16_1).same W17
  have f17_0 : Exa Z h17 a1 "com/example/tillwire/tillwire/HttpFraming$BodyReader" := (f16_0).wr W17
  have f17_1 : Fld Z h17 a1 "com/example/tillwire/tillwire/HttpFraming$BodyReader" "skipped" "J" (.long (0 : Int64)) := (f16_2).other W17 (Or.inr (slot_ne (Or.inl (hw _ (List.mem_of_getElem? (i := 133) rfl))) (Or.inl (hw _ (List.mem_of_getElem? (i := 127) rfl))) (by decide) (t := .long) (t' := .long) (by decide) (by decide)))
  have f17_2 : Exa Z h17 b2 "java/io/ByteArrayOutputStream" := (f16_3).wr W17
  have f17_3 : Unt h17 b2 := Unt.wr W17 f16_4
  have f17_4 : Fld Z h17 b2 "java/io/ByteArrayOutputStream" "buf" "[B" (.ref b3_b1_b2) := (f16_5).other W17 (Or.inl (ne_exa f16_3 f16_0 (by decide)))
  have f17_5 : Fld Z h17 b2 "java/io/ByteArrayOutputStream" "count" "I" (.int (0 : Int32)) := (f16_6).other W17 (Or.inl (ne_exa f16_3 f16_0 (by decide)))
  have f17_6 : Exa Z h17 b3_b1_b2 "[B" := (f16_7).wr W17
  have f17_7 : Arv Z h17 b3_b1_b2 k3_k1_k2 .byte (32 : Int32) [] (.int (0 : Int32)) := (f16_8).other W17 (ne_exa f16_7 f16_0 (by decide))
  have f17_8 : Fld Z h17 a1 "com/example/tillwire/tillwire/HttpFraming$BodyReader" "kept" "Ljava/io/ByteArrayOutputStream;" (.ref b2) := (f16_9).other W17 (Or.inr (slot_ne (Or.inr (hw _ (List.mem_of_getElem? (i := 32) rfl))) (Or.inl (hw _ (List.mem_of_getElem? (i := 127) rfl))) (by decide) (t := (.object "java/io/ByteArrayOutputStream")) (t' := .long) (by decide) (by decide)))
  have f17_9 : Exa Z h17 b5 "com/example/tillwire/tillwire/HttpFraming$Line" := (f16_10).wr W17
  have f17_10 : Fld Z h17 a1 "com/example/tillwire/tillwire/HttpFraming$BodyReader" "line" "Lcom/example/tillwire/tillwire/HttpFraming$Line;" (.ref b5) := (f16_11).other W17 (Or.inr (slot_ne (Or.inr (hw _ (List.mem_of_getElem? (i := 62) rfl))) (Or.inl (hw _ (List.mem_of_getElem? (i := 127) rfl))) (by decide) (t := (.object "com/example/tillwire/tillwire/HttpFraming$Line")) (t' := .long) (by decide) (by decide)))
  have f17_11 : Fld Z h17 a1 "com/example/tillwire/tillwire/HttpFraming$BodyReader" "whole" "Z" (.int (1 : Int32)) := (f16_12).other W17 (Or.inr (slot_ne (Or.inl (hw _ (List.mem_of_getElem? (i := 64) rfl))) (Or.inl (hw _ (List.mem_of_getElem? (i := 127) rfl))) (by decide) (t := .boolean) (t' := .long) (by decide) (by decide)))
  have f17_12 : Fld Z h17 a1 "com/example/tillwire/tillwire/HttpFraming$BodyReader" "chunked" "Z" (.int (0 : Int32)) := (f16_13).other W17 (Or.inr (slot_ne (Or.inr (hw _ (List.mem_of_getElem? (i := 67) rfl))) (Or.inl (hw _ (List.mem_of_getElem? (i := 127) rfl))) (by decide) (t := .boolean) (t' := .long) (by decide) (by decide)))
  have f17_13 : Fld Z h17 a1 "com/example/tillwire/tillwire/HttpFraming$BodyReader" "keep" "I" (.int p3) := (f16_14).other W17 (Or.inr (slot_ne (Or.inr (hw _ (List.mem_of_getElem? (i := 69) rfl))) (Or.inl (hw _ (List.mem_of_getElem? (i := 127) rfl))) (by decide) (t := .int) (t' := .long) (by decide) (by decide)))
  have f17_14 : Fld Z h17 a1 "com/example/tillwire/tillwire/HttpFraming$BodyReader" "skip" "J" (.long q4) := (f16_15).other W17 (Or.inr (slot_ne (Or.inr (hw _ (List.mem_of_getElem? (i := 71) rfl))) (Or.inl (hw _ (List.mem_of_getElem? (i := 127) rfl))) (by decide) (t := .long) (t' := .long) (by decide) (by decide)))
  have f17_15 : Fld Z h17 a1 "com/example/tillwire/tillwire/HttpFraming$BodyReader" "passed" "J" (.long (0 : Int64)) := (f16_16).other W17 (Or.inr (slot_ne (Or.inl (hw _ (List.mem_of_getElem? (i := 123) rfl))) (Or.inl (hw _ (List.mem_of_getElem? (i := 127) rfl))) (by decide) (t := .long) (t' := .long) (by decide) (by decide)))
  have f17_16 : Fld Z h17 a1 "com/example/tillwire/tillwire/HttpFraming$BodyReader" "part" "Lcom/example/tillwire/tillwire/HttpFraming$BodyReader$Part;" (.ref w_n4) := (fw16).other W17 (Or.inr (slot_ne (Or.inl (hw _ (List.mem_of_getElem? (i := 77) rfl))) (Or.inl (hw _ (List.mem_of_getElem? (i := 127) rfl))) (by decide) (t := (.object "com/example/tillwire/tillwire/HttpFraming$BodyReader$Part")) (t' := .long) (by decide) (by decide)))
  have O17 := O16.wr W17 g_a1
  have N17 := Fr.snoc X17 N16 g_a1
  have K17 : Keep h0 h17 [a1] := K16.wr W17 (Or.inl (List.mem_of_getElem? (i := 0) rfl))
  obtain ⟨cq18, q18, q18'⟩ := (f17_0).cell
  obtain ⟨_, _, ⟨T18, L18, k18, n18⟩, -, X18, ⟨Lc18, hQ18, l18, y18, z18⟩, st18⟩ := X17.privateBack hx (y := (⟨"com/example/tillwire/tillwire/HttpFraming$BodyReader", "endKept", "()V"⟩ : MethodName)) hown (mvT hZ (hw _ (List.mem_of_getElem? (i := 128) rfl))) (mvT hZ (hw _ (List.mem_of_getElem? (i := 129) rfl))) (own_selP hZ (hw _ (List.mem_of_getElem? (i := 81) rfl)) rfl (hw _ (List.mem_of_getElem? (i := 130) rfl)) (hw _ (List.mem_of_getElem? (i := 129) rfl)) (by decide)) (Cond.privateMethod_at (mvP hZ (hw _ (List.mem_of_getElem? (i := 130) rfl)) (args := #[]))) (mvT hZ (hw _ (List.mem_of_getElem? (i := 131) rfl))) (by decide) (backOf (W := 0) (rm_ek1 l Z a0 hw [] W a1 b2 q4 h17 n0 O17 xk g_a1 f17_0 f17_8 f17_11 f17_12 f17_16 fw17 f17_1 f17_15 f17_14) hZ (hw _ (List.mem_of_getElem? (i := 131) rfl)) (hw _ (List.mem_of_getElem? (i := 4) rfl)) (by decide) (by decide)) (g := (mkF m 127 #[.val (.ref a1), .val (.long (0 : Int64)), .second, .val (.int p3), .val (.long q4), .second, .val (.long (0 : Int64)), .second] [(.ref a1)])) rfl (by rw [hml]; rfl) (Steps.refl _) (a := a1) (by rw [e17]; exact q18) q18' (argsL := []) (rest := []) (lenOf pd_0 rfl) rfl (by show 2 * 0 + _ ≤ _; exact Nat.le_of_eq rfl) (hb hby d1_127) (fun _ _ => ⟨rfl, e17, (by decide : 5 + 0 ≤ _), (by decide : 56 + 0 ≤ _)⟩)
  dsimp only [Pt.U, Pt.locs, Pt.cells, Pt.slots] at X18 l18 y18 z18 st18 hQ18
  subst l18 y18 z18
  obtain ⟨N18q, hP18⟩ := hQ18
  have N18 := Fr.app N17 N18q
  obtain ⟨rfl, Kp18, fp18_0, fp18_1, fp18_2, fp18_3, fp18_4⟩ := hP18
  have f18_0 : Exa Z T18.heap a1 "com/example/tillwire/tillwire/HttpFraming$BodyReader" := (f17_0).keep Kp18
  have f18_1 : Exa Z T18.heap b2 "java/io/ByteArrayOutputStream" := (f17_2).keep Kp18
  have f18_2 : Unt T18.heap b2 := own_untk f17_3 Kp18 (ninS (ne_exa f17_2 f17_0 (by decide)) nin0)
  have f18_3 : Fld Z T18.heap b2 "java/io/ByteArrayOutputStream" "buf" "[B" (.ref b3_b1_b2) := (f17_4).keep Kp18 (ninS (ne_exa f17_2 f17_0 (by decide)) nin0)
  have f18_4 : Fld Z T18.heap b2 "java/io/ByteArrayOutputStream" "count" "I" (.int (0 : Int32)) := (f17_5).keep Kp18 (ninS (ne_exa f17_2 f17_0 (by decide)) nin0)
  have f18_5 : Exa Z T18.heap b3_b1_b2 "[B" := (f17_6).keep Kp18
  have f18_6 : Arv Z T18.heap b3_b1_b2 k3_k1_k2 .byte (32 : Int32) [] (.int (0 : Int32)) := (f17_7).keep Kp18 (ninS (ne_exa f17_6 f17_0 (by decide)) nin0)
  have f18_7 : Exa Z T18.heap b5 "com/example/tillwire/tillwire/HttpFraming$Line" := (f17_9).keep Kp18
  have O18 := O17.keep Kp18 (allS g_a1 all0)
  have K18 : Keep h0 T18.heap [a1] := K17.trans Kp18 (allS (Or.inl (List.mem_of_getElem? (i := 0) rfl)) all0)
  obtain ⟨fs, hr, hrun, hended, hW, hsame⟩ := X18.leave (v := none) (fun _ => rfl)
  refine ⟨_, _, pre0 _ ?_, hrun, hended, _, _, rfl, ?_, ⟨_, rfl⟩, hW, hsame.mono (by decide) (by decide)⟩
  · show Steps p.tables e below (s₁.setTop (mkF m 0 #[.val (.ref a1), .val (.long (0 : Int64)), .second, .val (.int p3), .val (.long q4), .second, .unset, .unset] [])) _
    refine XS.aloadN X0.here hx rfl (hb hby d1_0) rfl rfl ?_
    show Steps p.tables e below (s₁.setTop (mkF m 1 #[.val (.ref a1), .val (.long (0 : Int64)), .second, .val (.int p3), .val (.long q4), .second, .unset, .unset] [(.ref a1)])) _
    refine st1 _ ?_
    show Steps p.tables e below (T1.setTop (mkF m 4 #[.val (.ref a1), .val (.long (0 : Int64)), .second, .val (.int p3), .val (.long q4), .second, .unset, .unset] [])) _
    refine XS.aloadN X1.here hx rfl (hb hby d1_4) rfl rfl ?_
    show Steps p.tables e below (T1.setTop (mkF m 5 #[.val (.ref a1), .val (.long (0 : Int64)), .second, .val (.int p3), .val (.long q4), .second, .unset, .unset] [(.ref a1)])) _
    refine st2 _ ?_
    show Steps p.tables e below (T2.setTop (mkF m 8 #[.val (.ref a1), .val (.long (0 : Int64)), .second, .val (.int p3), .val (.long q4), .second, .unset, .unset] [(.ref b2), (.ref a1)])) _
    refine XS.dup X2.here hx rfl (hb hby d1_8) rfl rfl ?_
    show Steps p.tables e below (T2.setTop (mkF m 9 #[.val (.ref a1), .val (.long (0 : Int64)), .second, .val (.int p3), .val (.long q4), .second, .unset, .unset] [(.ref b2), (.ref b2), (.ref a1)])) _
    refine st3.trans ?_
    show Steps p.tables e below (T3.setTop (mkF m 12 #[.val (.ref a1), .val (.long (0 : Int64)), .second, .val (.int p3), .val (.long q4), .second, .unset, .unset] [(.ref b2), (.ref a1)])) _
    refine st4 _ ?_
    show Steps p.tables e below (T4.setTop (mkF m 15 #[.val (.ref a1), .val (.long (0 : Int64)), .second, .val (.int p3), .val (.long q4), .second, .unset, .unset] [])) _
    refine XS.aloadN X4.here hx rfl (hb hby d1_15) rfl rfl ?_
    show Steps p.tables e below (T4.setTop (mkF m 16 #[.val (.ref a1), .val (.long (0 : Int64)), .second, .val (.int p3), .val (.long q4), .second, .unset, .unset] [(.ref a1)])) _
    refine st5 _ ?_
    show Steps p.tables e below (T5.setTop (mkF m 19 #[.val (.ref a1), .val (.long (0 : Int64)), .second, .val (.int p3), .val (.long q4), .second, .unset, .unset] [(.ref b5), (.ref a1)])) _
    refine XS.dup X5.here hx rfl (hb hby d1_19) rfl rfl ?_
    show Steps p.tables e below (T5.setTop (mkF m 20 #[.val (.ref a1), .val (.long (0 : Int64)), .second, .val (.int p3), .val (.long q4), .second, .unset, .unset] [(.ref b5), (.ref b5), (.ref a1)])) _
    refine st6.trans ?_
    show Steps p.tables e below (T6.setTop (mkF m 23 #[.val (.ref a1), .val (.long (0 : Int64)), .second, .val (.int p3), .val (.long q4), .second, .unset, .unset] [(.ref b5), (.ref a1)])) _
    refine st7 _ ?_
    show Steps p.tables e below (T7.setTop (mkF m 26 #[.val (.ref a1), .val (.long (0 : Int64)), .second, .val (.int p3), .val (.long q4), .second, .unset, .unset] [])) _
    refine XS.aloadN X7.here hx rfl (hb hby d1_26) rfl rfl ?_
    show Steps p.tables e below (T7.setTop (mkF m 27 #[.val (.ref a1), .val (.long (0 : Int64)), .second, .val (.int p3), .val (.long q4), .second, .unset, .unset] [(.ref a1)])) _
    refine XS.iconst X7.here hx rfl (hb hby d1_27) ?_
    show Steps p.tables e below (T7.setTop (mkF m 28 #[.val (.ref a1), .val (.long (0 : Int64)), .second, .val (.int p3), .val (.long q4), .second, .unset, .unset] [(.int (1 : Int32)), (.ref a1)])) _
    refine st8 _ ?_
    show Steps p.tables e below (T8.setTop (mkF m 31 #[.val (.ref a1), .val (.long (0 : Int64)), .second, .val (.int p3), .val (.long q4), .second, .unset, .unset] [])) _
    refine XS.aloadN X8.here hx rfl (hb hby d1_31) rfl rfl ?_
    show Steps p.tables e below (T8.setTop (mkF m 32 #[.val (.ref a1), .val (.long (0 : Int64)), .second, .val (.int p3), .val (.long q4), .second, .unset, .unset] [(.ref a1)])) _
    refine XS.lloadN X8.here hx rfl (hb hby d1_32) rfl ?_
    show Steps p.tables e below (T8.setTop (mkF m 33 #[.val (.ref a1), .val (.long (0 : Int64)), .second, .val (.int p3), .val (.long q4), .second, .unset, .unset] [(.long (0 : Int64)), (.ref a1)])) _
    refine X8.ldc2Long hx hown (mvT hZ (hw _ (List.mem_of_getElem? (i := 65) rfl))) (g := (mkF m 33 #[.val (.ref a1), .val (.long (0 : Int64)), .second, .val (.int p3), .val (.long q4), .second, .unset, .unset] [(.long (0 : Int64)), (.ref a1)])) rfl (hb hby d1_33) _ ?_
    show Steps p.tables e below (T8.setTop (mkF m 36 #[.val (.ref a1), .val (.long (0 : Int64)), .second, .val (.int p3), .val (.long q4), .second, .unset, .unset] [(.long (-1 : Int64)), (.long (0 : Int64)), (.ref a1)])) _
    refine XS.lcmp X8.here hx rfl (hb hby d1_36) rfl ?_
    show Steps p.tables e below (T8.setTop (mkF m 37 #[.val (.ref a1), .val (.long (0 : Int64)), .second, .val (.int p3), .val (.long q4), .second, .unset, .unset] [(.int (lcmpW (0 : Int64) (-1 : Int64))), (.ref a1)])) _
    rw [show (lcmpW (0 : Int64) (-1 : Int64)) = (1 : Int32) from by decide]
    show Steps p.tables e below (T8.setTop (mkF m 37 #[.val (.ref a1), .val (.long (0 : Int64)), .second, .val (.int p3), .val (.long q4), .second, .unset, .unset] [(.int (1 : Int32)), (.ref a1)])) _
    refine XS.ifYes X8.here hx rfl (pc0 := 37) (pc' := 44) rfl (hb hby d1_37) rfl ((if0 _ _).trans (feq ((by decide) : ¬ ((1 : Int32) = (0 : Int32)))).2) (by decide) (by decide) ?_
    show Steps p.tables e below (T8.setTop (mkF m 44 #[.val (.ref a1), .val (.long (0 : Int64)), .second, .val (.int p3), .val (.long q4), .second, .unset, .unset] [(.ref a1)])) _
    refine XS.iconst X8.here hx rfl (hb hby d1_44) ?_
    show Steps p.tables e below (T8.setTop (mkF m 45 #[.val (.ref a1), .val (.long (0 : Int64)), .second, .val (.int p3), .val (.long q4), .second, .unset, .unset] [(.int (0 : Int32)), (.ref a1)])) _
    refine st9 _ ?_
    show Steps p.tables e below (T9.setTop (mkF m 48 #[.val (.ref a1), .val (.long (0 : Int64)), .second, .val (.int p3), .val (.long q4), .second, .unset, .unset] [])) _
    refine XS.aloadN X9.here hx rfl (hb hby d1_48) rfl rfl ?_
    show Steps p.tables e below (T9.setTop (mkF m 49 #[.val (.ref a1), .val (.long (0 : Int64)), .second, .val (.int p3), .val (.long q4), .second, .unset, .unset] [(.ref a1)])) _
    refine XS.iloadN X9.here hx rfl (hb hby d1_49) rfl ?_
    show Steps p.tables e below (T9.setTop (mkF m 50 #[.val (.ref a1), .val (.long (0 : Int64)), .second, .val (.int p3), .val (.long q4), .second, .unset, .unset] [(.int p3), (.ref a1)])) _
    refine st10 _ ?_
    show Steps p.tables e below (T10.setTop (mkF m 53 #[.val (.ref a1), .val (.long (0 : Int64)), .second, .val (.int p3), .val (.long q4), .second, .unset, .unset] [])) _
    refine XS.aloadN X10.here hx rfl (hb hby d1_53) rfl rfl ?_
    show Steps p.tables e below (T10.setTop (mkF m 54 #[.val (.ref a1), .val (.long (0 : Int64)), .second, .val (.int p3), .val (.long q4), .second, .unset, .unset] [(.ref a1)])) _
    refine XS.lload X10.here hx rfl (hb hby d1_54) rfl ?_
    show Steps p.tables e below (T10.setTop (mkF m 56 #[.val (.ref a1), .val (.long (0 : Int64)), .second, .val (.int p3), .val (.long q4), .second, .unset, .unset] [(.long q4), (.ref a1)])) _
    refine st11 _ ?_
    show Steps p.tables e below (T11.setTop (mkF m 59 #[.val (.ref a1), .val (.long (0 : Int64)), .second, .val (.int p3), .val (.long q4), .second, .unset, .unset] [])) _
    refine XS.aloadN X11.here hx rfl (hb hby d1_59) rfl rfl ?_
    show Steps p.tables e below (T11.setTop (mkF m 60 #[.val (.ref a1), .val (.long (0 : Int64)), .second, .val (.int p3), .val (.long q4), .second, .unset, .unset] [(.ref a1)])) _
    refine st12 _ ?_
    show Steps p.tables e below (T12.setTop (mkF m 63 #[.val (.ref a1), .val (.long (0 : Int64)), .second, .val (.int p3), .val (.long q4), .second, .unset, .unset] [(.int (0 : Int32))])) _
    refine XS.ifYes X12.here hx rfl (pc0 := 63) (pc' := 79) rfl (hb hby d1_63) rfl ((if0 _ _).trans (teq ((by decide) : (0 : Int32) = (0 : Int32))).1) (by decide) (by decide) ?_
    show Steps p.tables e below (T12.setTop (mkF m 79 #[.val (.ref a1), .val (.long (0 : Int64)), .second, .val (.int p3), .val (.long q4), .second, .unset, .unset] [])) _
    refine XS.lloadN X12.here hx rfl (hb hby d1_79) rfl ?_
    show Steps p.tables e below (T12.setTop (mkF m 80 #[.val (.ref a1), .val (.long (0 : Int64)), .second, .val (.int p3), .val (.long q4), .second, .unset, .unset] [(.long (0 : Int64))])) _
    refine X12.ldc2Long hx hown (mvT hZ (hw _ (List.mem_of_getElem? (i := 72) rfl))) (g := (mkF m 80 #[.val (.ref a1), .val (.long (0 : Int64)), .second, .val (.int p3), .val (.long q4), .second, .unset, .unset] [(.long (0 : Int64))])) rfl (hb hby d1_80) _ ?_
    show Steps p.tables e below (T12.setTop (mkF m 83 #[.val (.ref a1), .val (.long (0 : Int64)), .second, .val (.int p3), .val (.long q4), .second, .unset, .unset] [(.long (-2 : Int64)), (.long (0 : Int64))])) _
    refine XS.lcmp X12.here hx rfl (hb hby d1_83) rfl ?_
    show Steps p.tables e below (T12.setTop (mkF m 84 #[.val (.ref a1), .val (.long (0 : Int64)), .second, .val (.int p3), .val (.long q4), .second, .unset, .unset] [(.int (lcmpW (0 : Int64) (-2 : Int64)))])) _
    rw [show (lcmpW (0 : Int64) (-2 : Int64)) = (1 : Int32) from by decide]
    show Steps p.tables e below (T12.setTop (mkF m 84 #[.val (.ref a1), .val (.long (0 : Int64)), .second, .val (.int p3), .val (.long q4), .second, .unset, .unset] [(.int (1 : Int32))])) _
    refine XS.ifYes X12.here hx rfl (pc0 := 84) (pc' := 97) rfl (hb hby d1_84) rfl ((if0 _ _).trans (feq ((by decide) : ¬ ((1 : Int32) = (0 : Int32)))).2) (by decide) (by decide) ?_
    show Steps p.tables e below (T12.setTop (mkF m 97 #[.val (.ref a1), .val (.long (0 : Int64)), .second, .val (.int p3), .val (.long q4), .second, .unset, .unset] [])) _
    refine XS.lloadN X12.here hx rfl (hb hby d1_97) rfl ?_
    show Steps p.tables e below (T12.setTop (mkF m 98 #[.val (.ref a1), .val (.long (0 : Int64)), .second, .val (.int p3), .val (.long q4), .second, .unset, .unset] [(.long (0 : Int64))])) _
    refine XS.iloadN X12.here hx rfl (hb hby d1_98) rfl ?_
    show Steps p.tables e below (T12.setTop (mkF m 99 #[.val (.ref a1), .val (.long (0 : Int64)), .second, .val (.int p3), .val (.long q4), .second, .unset, .unset] [(.int p3), (.long (0 : Int64))])) _
    refine XS.i2l X12.here hx rfl (hb hby d1_99) rfl ?_
    show Steps p.tables e below (T12.setTop (mkF m 100 #[.val (.ref a1), .val (.long (0 : Int64)), .second, .val (.int p3), .val (.long q4), .second, .unset, .unset] [(.long (p3.toInt64)), (.long (0 : Int64))])) _
    refine st13 _ ?_
    show Steps p.tables e below (T13.setTop (mkF m 103 #[.val (.ref a1), .val (.long (0 : Int64)), .second, .val (.int p3), .val (.long q4), .second, .unset, .unset] [(.long (0 : Int64))])) _
    refine XS.lstore X13.here hx rfl (hb hby d1_103) rfl (l' := #[.val (.ref a1), .val (.long (0 : Int64)), .second, .val (.int p3), .val (.long q4), .second, .val (.long (0 : Int64)), .second]) rfl ?_
    show Steps p.tables e below (T13.setTop (mkF m 105 #[.val (.ref a1), .val (.long (0 : Int64)), .second, .val (.int p3), .val (.long q4), .second, .val (.long (0 : Int64)), .second] [])) _
    refine XS.aloadN X13.here hx rfl (hb hby d1_105) rfl rfl ?_
    show Steps p.tables e below (T13.setTop (mkF m 106 #[.val (.ref a1), .val (.long (0 : Int64)), .second, .val (.int p3), .val (.long q4), .second, .val (.long (0 : Int64)), .second] [(.ref a1)])) _
    refine XS.lloadN X13.here hx rfl (hb hby d1_106) rfl ?_
    show Steps p.tables e below (T13.setTop (mkF m 107 #[.val (.ref a1), .val (.long (0 : Int64)), .second, .val (.int p3), .val (.long q4), .second, .val (.long (0 : Int64)), .second] [(.long (0 : Int64)), (.ref a1)])) _
    refine XS.lload X13.here hx rfl (hb hby d1_107) rfl ?_
    show Steps p.tables e below (T13.setTop (mkF m 109 #[.val (.ref a1), .val (.long (0 : Int64)), .second, .val (.int p3), .val (.long q4), .second, .val (.long (0 : Int64)), .second] [(.long (0 : Int64)), (.long (0 : Int64)), (.ref a1)])) _
    refine XS.lsub X13.here hx rfl (hb hby d1_109) rfl ?_
    show Steps p.tables e below (T13.setTop (mkF m 110 #[.val (.ref a1), .val (.long (0 : Int64)), .second, .val (.int p3), .val (.long q4), .second, .val (.long (0 : Int64)), .second] [(.long ((0 : Int64) - (0 : Int64))), (.ref a1)])) _
    rw [show ((0 : Int64) - (0 : Int64)) = (0 : Int64) from by decide]
    show Steps p.tables e below (T13.setTop (mkF m 110 #[.val (.ref a1), .val (.long (0 : Int64)), .second, .val (.int p3), .val (.long q4), .second, .val (.long (0 : Int64)), .second] [(.long (0 : Int64)), (.ref a1)])) _
    refine st14 _ ?_
    show Steps p.tables e below (T14.setTop (mkF m 113 #[.val (.ref a1), .val (.long (0 : Int64)), .second, .val (.int p3), .val (.long q4), .second, .val (.long (0 : Int64)), .second] [])) _
    refine XS.aloadN X14.here hx rfl (hb hby d1_113) rfl rfl ?_
    show Steps p.tables e below (T14.setTop (mkF m 114 #[.val (.ref a1), .val (.long (0 : Int64)), .second, .val (.int p3), .val (.long q4), .second, .val (.long (0 : Int64)), .second] [(.ref a1)])) _
    refine st15 _ ?_
    show Steps p.tables e below (T15.setTop (mkF m 117 #[.val (.ref a1), .val (.long (0 : Int64)), .second, .val (.int p3), .val (.long q4), .second, .val (.long (0 : Int64)), .second] [(.ref w_n4), (.ref a1)])) _
    refine st16 _ ?_
    show Steps p.tables e below (T16.setTop (mkF m 120 #[.val (.ref a1), .val (.long (0 : Int64)), .second, .val (.int p3), .val (.long q4), .second, .val (.long (0 : Int64)), .second] [])) _
    refine XS.aloadN X16.here hx rfl (hb hby d1_120) rfl rfl ?_
    show Steps p.tables e below (T16.setTop (mkF m 121 #[.val (.ref a1), .val (.long (0 : Int64)), .second, .val (.int p3), .val (.long q4), .second, .val (.long (0 : Int64)), .second] [(.ref a1)])) _
    refine XS.lload X16.here hx rfl (hb hby d1_121) rfl ?_
    show Steps p.tables e below (T16.setTop (mkF m 123 #[.val (.ref a1), .val (.long (0 : Int64)), .second, .val (.int p3), .val (.long q4), .second, .val (.long (0 : Int64)), .second] [(.long (0 : Int64)), (.ref a1)])) _
    refine st17 _ ?_
    show Steps p.tables e below (T17.setTop (mkF m 126 #[.val (.ref a1), .val (.long (0 : Int64)), .second, .val (.int p3), .val (.long q4), .second, .val (.long (0 : Int64)), .second] [])) _
    refine XS.aloadN X17.here hx rfl (hb hby d1_126) rfl rfl ?_
    show Steps p.tables e below (T17.setTop (mkF m 127 #[.val (.ref a1), .val (.long (0 : Int64)), .second, .val (.int p3), .val (.long q4), .second, .val (.long (0 : Int64)), .second] [(.ref a1)])) _
    refine st18.trans ?_
    show Steps p.tables e below (T18.setTop (mkF m 130 #[.val (.ref a1), .val (.long (0 : Int64)), .second, .val (.int p3), .val (.long q4), .second, .val (.long (0 : Int64)), .second] [])) _
    exact X18.returnOut hx Bd.returns (hb hby d1_130) hr
  · show QW (fun v h => ∃ b2 : Addr, ∃ b3_b1_b2 : Addr, ∃ k3_k1_k2 : ClassId, v = none ∧ Keep h0 h [a1] ∧ n0 ≤ b2 ∧ h0.size ≤ b2 ∧ n0 ≤ b3_b1_b2 ∧ h0.size ≤ b3_b1_b2 ∧ Exa Z h a1 "com/example/tillwire/tillwire/HttpFraming$BodyReader" ∧ Fld Z h a1 "com/example/tillwire/tillwire/HttpFraming$BodyReader" "kept" "Ljava/io/ByteArrayOutputStream;" (.ref b2) ∧ Fld Z h a1 "com/example/tillwire/tillwire/HttpFraming$BodyReader" "whole" "Z" (.int (1 : Int32)) ∧ Fld Z h a1 "com/example/tillwire/tillwire/HttpFraming$BodyReader" "part" "Lcom/example/tillwire/tillwire/HttpFraming$BodyReader$Part;" (.ref w_n3) ∧ Exa Z h b2 "java/io/ByteArrayOutputStream" ∧ Unt h b2 ∧ Fld Z h b2 "java/io/ByteArrayOutputStream" "buf" "[B" (.ref b3_b1_b2) ∧ Fld Z h b2 "java/io/ByteArrayOutputStream" "count" "I" (.int (0 : Int32)) ∧ Exa Z h b3_b1_b2 "[B" ∧ Arv Z h b3_b1_b2 k3_k1_k2 .byte (32 : Int32) [] (.int (0 : Int32))) n0 _ T18.heap _
    exact ⟨N18, ⟨b2, b3_b1_b2, k3_k1_k2, rfl, K18, g_b2, sz_b2, g_b3_b1_b2, sz_b3_b1_b2, fp18_0, fp18_1, fp18_2, fp18_4, f18_1, f18_2, f18_3, f18_4, f18_5, f18_6⟩⟩
set_option maxRecDepth 65536 in
set_option maxHeartbeats 40000000 in
theorem rm_n1b (l : Launch) (Z : State) (a0 : Array Value) (hw : ∀ d ∈ tables_1, d.before a0 Z = true) (ws : List Jvm.Cond) {w_n2 : Addr} {w_n3 : Addr} {w_n4 : Addr} {w_n1 : Addr} {v_n0 : Int32} (W : Wd Z w_n2 w_n3 w_n4 w_n1 v_n0) (a1 : Addr) (p3 : Int32) (q4 : Int64) (h0 : Heap) (n0 : Nat) (O0 : Old Z n0 h0) (xm : ¬ ((0 : Int32) < (lcmpW (0 : Int64) (p3.toInt64)))) (xk : (0 : Int32) < (lcmpW (0 : Int64) q4)) (g_a1 : n0 ≤ a1) (hf0 : Exa Z h0 a1 "com/example/tillwire/tillwire/HttpFraming$BodyReader") (hf1 : Fld Z h0 a1 "com/example/tillwire/tillwire/HttpFraming$BodyReader" "kept" "Ljava/io/ByteArrayOutputStream;" .null) (hf2 : Fld Z h0 a1 "com/example/tillwire/tillwire/HttpFraming$BodyReader" "line" "Lcom/example/tillwire/tillwire/HttpFraming$Line;" .null) (hf3 : Fld Z h0 a1 "com/example/tillwire/tillwire/HttpFraming$BodyReader" "whole" "Z" (.int (0 : Int32))) (hf4 : Fld Z h0 a1 "com/example/tillwire/tillwire/HttpFraming$BodyReader" "chunked" "Z" (.int (0 : Int32))) (hf5 : Fld Z h0 a1 "com/example/tillwire/tillwire/HttpFraming$BodyReader" "keep" "I" (.int (0 : Int32))) (hf6 : Fld Z h0 a1 "com/example/tillwire/tillwire/HttpFraming$BodyReader" "skip" "J" (.long (0 : Int64))) (hf7 : Fld Z h0 a1 "com/example/tillwire/tillwire/HttpFraming$BodyReader" "part" "Lcom/example/tillwire/tillwire/HttpFraming$BodyReader$Part;" .null) (hf8 : Fld Z h0 a1 "com/example/tillwire/tillwire/HttpFraming$BodyReader" "passed" "J" (.long (0 : Int64))) (hf9 : Fld Z h0 a1 "com/example/tillwire/tillwire/HttpFraming$BodyReader" "left" "J" (.long (0 : Int64))) (hf10 : Fld Z h0 a1 "com/example/tillwire/tillwire/HttpFraming$BodyReader" "skipped" "J" (.long (0 : Int64))) :
    MetFree l (⟨"com/example/tillwire/tillwire/HttpFraming$BodyReader", "<init>", "(JIJ)V"⟩ : MethodName) (head1 (Jvm.Cond.code (⟨"com/example/tillwire/tillwire/HttpFraming$BodyReader", "<init>", "(JIJ)V"⟩ : MethodName) prog_23_method_1_code 8 none :: ws) ({ frames := 4, cells := 5, slots := 56, locals := 53 } : Room)) (fun a U => a = #[(.ref a1), (.long (0 : Int64)), (.int p3), (.long q4)] ∧ Z.Warmed39 U.vm ∧ U.heap = h0) (fun _ _ _ _ _ => True) (fun _ U o U' => ∃ v L, o = .returned v ∧ QW (fun v h => ∃ b2 : Addr, ∃ b3_b1_b2 : Addr, ∃ k3_k1_k2 : ClassId, v = none ∧ Keep h0 h [a1] ∧ n0 ≤ b2 ∧ h0.size ≤ b2 ∧ n0 ≤ b3_b1_b2 ∧ h0.size ≤ b3_b1_b2 ∧ Exa Z h a1 "com/example/tillwire/tillwire/HttpFraming$BodyReader" ∧ Fld Z h a1 "com/example/tillwire/tillwire/HttpFraming$BodyReader" "kept" "Ljava/io/ByteArrayOutputStream;" (.ref b2) ∧ Fld Z h a1 "com/example/tillwire/tillwire/HttpFraming$BodyReader" "whole" "Z" (.int (0 : Int32)) ∧ Fld Z h a1 "com/example/tillwire/tillwire/HttpFraming$BodyReader" "part" "Lcom/example/tillwire/tillwire/HttpFraming$BodyReader$Part;" (.ref w_n3) ∧ Exa Z h b2 "java/io/ByteArrayOutputStream" ∧ Unt h b2 ∧ Fld Z h b2 "java/io/ByteArrayOutputStream" "buf" "[B" (.ref b3_b1_b2) ∧ Fld Z h b2 "java/io/ByteArrayOutputStream" "count" "I" (.int (0 : Int32)) ∧ Exa Z h b3_b1_b2 "[B" ∧ Arv Z h b3_b1_b2 k3_k1_k2 .byte (32 : Int32) [] (.int (0 : Int32))) n0 v U'.heap L ∧ FrameEnd U o U' L ({ frames := 4, cells := 5, slots := 56, locals := 53 } : Room).cells ({ frames := 4, cells := 5, slots := 56, locals := 53 } : Room).slots) := by
  have W' := W; obtain ⟨S_n2, E_n2, S_n3, E_n3, S_n4, E_n4, S_n1, E_n1, S_n0, N_n0, F_n2_ordinal, F_n3_ordinal⟩ := W'
  refine MetFree.of_bodySF (plainFor_of_name pn_1) hisR ?_
  intro p e s m args below meth c s₁ Bd hml0 hP hK
  obtain ⟨rfl, hZ, hh⟩ := hP
  have hx := Bd.exec
  have hby := Bd.bytes
  have hml : c.maxLocals = 8 := hml0
  have hown : s.vm.findClass "com/example/tillwire/tillwire/HttpFraming$BodyReader" = some m.cls := findClass_of_methodNamed Bd.named
  have hnm := (name_of_methodNamed Bd.named Bd.method).1
  have X0 : Stand p l e ({ frames := 4, cells := 5, slots := 56, locals := 53 } : Room) s m #[(.ref a1), (.long (0 : Int64)), (.int p3), (.long q4)] below meth c s₁ [] 0 0 := Stand.of_body Bd
  have e0 : s₁.heap = h0 := by rw [← hh, Bd.state]; rfl
  have N0 := Fr.nil n0
  have pre0 : ∀ t, Steps p.tables e below (s₁.setTop (mkF m 0 #[.val (.ref a1), .val (.long (0 : Int64)), .second, .val (.int p3), .val (.long q4), .second, .unset, .unset] [])) t → Steps p.tables e below (s₁.setTop (entryFrame m #[(.ref a1), (.long (0 : Int64)), (.int p3), (.long q4)] 8)) t := fun t k => castTop (ef_1_10 m a1 (0 : Int64) p3 q4) k
  obtain ⟨T1, X1, e1, st1⟩ := initO X0 hx hZ hown (hw _ (List.mem_of_getElem? (i := 8) rfl)) (hw _ (List.mem_of_getElem? (i := 9) rfl)) (hw _ (List.mem_of_getElem? (i := 10) rfl)) e0 (g := (mkF m 1 #[.val (.ref a1), .val (.long (0 : Int64)), .second, .val (.int p3), .val (.long q4), .second, .unset, .unset] [(.ref a1)])) rfl (by rw [hml]; rfl) rfl (hb hby d1_1) (by decide) (W := 0) (by show 2 * 0 + _ ≤ _; exact Nat.le_of_eq rfl) (by decide)
  obtain ⟨T2, h2, X2, e2, E2, A2, D2, U2, st2⟩ := newO X1 hx hZ hown (hw _ (List.mem_of_getElem? (i := 11) rfl)) (hw _ (List.mem_of_getElem? (i := 12) rfl)) (hw _ (List.mem_of_getElem? (i := 13) rfl)) e1 (g := (mkF m 5 #[.val (.ref a1), .val (.long (0 : Int64)), .second, .val (.int p3), .val (.long q4), .second, .unset, .unset] [(.ref a1)])) rfl (hb hby d1_5) (by decide) (by decide)
  obtain ⟨b2, g2⟩ : ∃ z, z = h0.size := ⟨_, rfl⟩
  rw [← g2] at A2 D2 U2 st2
  have lt_a1_b2 : a1 < h0.size := (hf0).lt
  have g_b2 : n0 ≤ b2 := by rw [g2]; exact O0.1 ▸ O0.2.1
  have sz_b2 : h0.size ≤ b2 := by rw [g2]; exact (Keep.refl h0 [a1]).1
  have f2_0 : Exa Z h2 a1 "com/example/tillwire/tillwire/HttpFraming$BodyReader" := (hf0).ext E2
  have f2_1 : Fld Z h2 a1 "com/example/tillwire/tillwire/HttpFraming$BodyReader" "kept" "Ljava/io/ByteArrayOutputStream;" .null := (hf1).ext E2
  have f2_2 : Fld Z h2 a1 "com/example/tillwire/tillwire/HttpFraming$BodyReader" "line" "Lcom/example/tillwire/tillwire/HttpFraming$Line;" .null := (hf2).ext E2
  have f2_3 : Fld Z h2 a1 "com/example/tillwire/tillwire/HttpFraming$BodyReader" "whole" "Z" (.int (0 : Int32)) := (hf3).ext E2
  have f2_4 : Fld Z h2 a1 "com/example/tillwire/tillwire/HttpFraming$BodyReader" "chunked" "Z" (.int (0 : Int32)) := (hf4).ext E2
  have f2_5 : Fld Z h2 a1 "com/example/tillwire/tillwire/HttpFraming$BodyReader" "keep" "I" (.int (0 : Int32)) := (hf5).ext E2
  have f2_6 : Fld Z h2 a1 "com/example/tillwire/tillwire/HttpFraming$BodyReader" "skip" "J" (.long (0 : Int64)) := (hf6).ext E2
  have f2_7 : Fld Z h2 a1 "com/example/tillwire/tillwire/HttpFraming$BodyReader" "part" "Lcom/example/tillwire/tillwire/HttpFraming$BodyReader$Part;" .null := (hf7).ext E2
  have f2_8 : Fld Z h2 a1 "com/example/tillwire/tillwire/HttpFraming$BodyReader" "passed" "J" (.long (0 : Int64)) := (hf8).ext E2
  have f2_9 : Fld Z h2 a1 "com/example/tillwire/tillwire/HttpFraming$BodyReader" "left" "J" (.long (0 : Int64)) := (hf9).ext E2
  have f2_10 : Fld Z h2 a1 "com/example/tillwire/tillwire/HttpFraming$BodyReader" "skipped" "J" (.long (0 : Int64)) := (hf10).ext E2
  have O2 := O0.ext E2
  have K2 : Keep h0 h2 [a1] := (Keep.refl h0 [a1]).ext E2
  have f2_buf : Fld Z h2 b2 "java/io/ByteArrayOutputStream" "buf" "[B" .null := D2 (Or.inl (hw _ (List.mem_of_getElem? (i := 30) rfl))) (ty := (.array .byte)) (by decide)
  have f2_count : Fld Z h2 b2 "java/io/ByteArrayOutputStream" "count" "I" (.int (0 : Int32)) := D2 (Or.inl (hw _ (List.mem_of_getElem? (i := 106) rfl))) (ty := .int) (by decide)
  obtain ⟨_, _, ⟨T3, L3, k3, n3⟩, -, X3, ⟨Lc3, hQ3, l3, y3, z3⟩, st3⟩ := X2.specialBack hx (y := (⟨"java/io/ByteArrayOutputStream", "<init>", "()V"⟩ : MethodName)) rfl hown (mvT hZ (hw _ (List.mem_of_getElem? (i := 14) rfl))) (mvT hZ (hw _ (List.mem_of_getElem? (i := 15) rfl))) (mvT hZ (hw _ (List.mem_of_getElem? (i := 16) rfl))) (by decide) (backOf (W := 2) (rm_bo l Z a0 hw [] W b2 h2 n0 O2 g_b2 A2 U2 f2_buf f2_count) hZ (hw _ (List.mem_of_getElem? (i := 16) rfl)) (hw _ (List.mem_of_getElem? (i := 13) rfl)) (by decide) (by decide)) (g := (mkF m 9 #[.val (.ref a1), .val (.long (0 : Int64)), .second, .val (.int p3), .val (.long q4), .second, .unset, .unset] [(.ref b2), (.ref b2), (.ref a1)])) rfl (by rw [hml]; rfl) (Steps.refl _) (a := b2) (argsL := []) (rest := [(.ref b2), (.ref a1)]) (lenOf pd_0 rfl) rfl (by show 2 * 0 + _ ≤ _; exact Nat.le_of_eq rfl) (hb hby d1_9) (fun _ _ => ⟨rfl, e2, (by decide : 1 + 1 ≤ _), (by decide : 2 + 32 ≤ _)⟩)
  dsimp only [Pt.U, Pt.locs, Pt.cells, Pt.slots] at X3 l3 y3 z3 st3 hQ3
  subst l3 y3 z3
  obtain ⟨N3q, hP3⟩ := hQ3
  have N3 := Fr.app N0 N3q
  obtain ⟨b3_b1_b2, k3_k1_k2, rfl, Kp3, g_b3_b1_b2, si_b3_b1_b2, fp3_0, fp3_1, fp3_2, fp3_3, fp3_4, fp3_5⟩ := hP3
  have f3_0 : Exa Z T3.heap a1 "com/example/tillwire/tillwire/HttpFraming$BodyReader" := (f2_0).keep Kp3
  have f3_1 : Fld Z T3.heap a1 "com/example/tillwire/tillwire/HttpFraming$BodyReader" "kept" "Ljava/io/ByteArrayOutputStream;" .null := (f2_1).keep Kp3 (ninS (ne_exa f2_0 A2 (by decide)) nin0)
  have f3_2 : Fld Z T3.heap a1 "com/example/tillwire/tillwire/HttpFraming$BodyReader" "line" "Lcom/example/tillwire/tillwire/HttpFraming$Line;" .null := (f2_2).keep Kp3 (ninS (ne_exa f2_0 A2 (by decide)) nin0)
  have f3_3 : Fld Z T3.heap a1 "com/example/tillwire/tillwire/HttpFraming$BodyReader" "whole" "Z" (.int (0 : Int32)) := (f2_3).keep Kp3 (ninS (ne_exa f2_0 A2 (by decide)) nin0)
  have f3_4 : Fld Z T3.heap a1 "com/example/tillwire/tillwire/HttpFraming$BodyReader" "chunked" "Z" (.int (0 : Int32)) := (f2_4).keep Kp3 (ninS (ne_exa f2_0 A2 (by decide)) nin0)
  have f3_5 : Fld Z T3.heap a1 "com/example/tillwire/tillwire/HttpFraming$BodyReader" "keep" "I" (.int (0 : Int32)) := (f2_5).keep Kp3 (ninS (ne_exa f2_0 A2 (by decide)) nin0)
  have f3_6 : Fld Z T3.heap a1 "com/example/tillwire/tillwire/HttpFraming$BodyReader" "skip" "J" (.long (0 : Int64)) := (f2_6).keep Kp3 (ninS (ne_exa f2_0 A2 (by decide)) nin0)
  have f3_7 : Fld Z T3.heap a1 "com/example/tillwire/tillwire/HttpFraming$BodyReader" "part" "Lcom/example/tillwire/tillwire/HttpFraming$BodyReader$Part;" .null := (f2_7).keep Kp3 (ninS (ne_exa f2_0 A2 (by decide)) nin0)
  have f3_8 : Fld Z T3.heap a1 "com/example/tillwire/tillwire/HttpFraming$BodyReader" "passed" "J" (.long (0 : Int64)) := (f2_8).keep Kp3 (ninS (ne_exa f2_0 A2 (by decide)) nin0)
  have f3_9 : Fld Z T3.heap a1 "com/example/tillwire/tillwire/HttpFraming$BodyReader" "left" "J" (.long (0 : Int64)) := (f2_9).keep Kp3 (ninS (ne_exa f2_0 A2 (by decide)) nin0)
  have f3_10 : Fld Z T3.heap a1 "com/example/tillwire/tillwire/HttpFraming$BodyReader" "skipped" "J" (.long (0 : Int64)) := (f2_10).keep Kp3 (ninS (ne_exa f2_0 A2 (by decide)) nin0)
  have f3_11 : Exa Z T3.heap b2 "java/io/ByteArrayOutputStream" := (A2).keep Kp3
  have O3 := O2.keep Kp3 (allS g_b2 all0)
  have sz_b3_b1_b2 : h0.size ≤ b3_b1_b2 := Nat.le_trans (K2).1 si_b3_b1_b2
  have K3 : Keep h0 T3.heap [a1] := K2.trans Kp3 (allS (Or.inr sz_b2) all0)
  obtain ⟨T4, h4, X4, e4, W4, st4⟩ := putF X3 hx hZ hown (host := "") (Or.inl (hw _ (List.mem_of_getElem? (i := 31) rfl))) Via.refl rfl f3_1 f3_0 (Or.inr ⟨(hw _ (List.mem_of_getElem? (i := 32) rfl)), rfl, hnm⟩) (hw _ (List.mem_of_getElem? (i := 3) rfl)) (ty := (.object "java/io/ByteArrayOutputStream")) (by decide) rfl rfl (g := (mkF m 12 #[.val (.ref a1), .val (.long (0 : Int64)), .second, .val (.int p3), .val (.long q4), .second, .unset, .unset] [(.ref b2), (.ref a1)])) rfl rfl (hb hby d1_12)
  have fw4 : Fld Z h4 a1 "com/example/tillwire/tillwire/HttpFraming$BodyReader" "kept" "Ljava/io/ByteArrayOutputStream;" (.ref b2) := (f3_1).same W4
  have f4_0 : Exa Z h4 a1 "com/example/tillwire/tillwire/HttpFraming$BodyReader" := (f3_0).wr W4
  have f4_1 : Fld Z h4 a1 "com/example/tillwire/tillwire/HttpFraming$BodyReader" "line" "Lcom/example/tillwire/tillwire/HttpFraming$Line;" .null := (f3_2).other W4 (Or.inr (slot_ne (Or.inr (hw _ (List.mem_of_getElem? (i := 62) rfl))) (Or.inr (hw _ (List.mem_of_getElem? (i := 32) rfl))) (by decide) (t := (.object "com/example/tillwire/tillwire/HttpFraming$Line")) (t' := (.object "java/io/ByteArrayOutputStream")) (by decide) (by decide)))
  have f4_2 : Fld Z h4 a1 "com/example/tillwire/tillwire/HttpFraming$BodyReader" "whole" "Z" (.int (0 : Int32)) := (f3_3).other W4 (Or.inr (slot_ne (Or.inl (hw _ (List.mem_of_getElem? (i := 64) rfl))) (Or.inr (hw _ (List.mem_of_getElem? (i := 32) rfl))) (by decide) (t := .boolean) (t' := (.object "java/io/ByteArrayOutputStream")) (by decide) (by decide)))
  have f4_3 : Fld Z h4 a1 "com/example/tillwire/tillwire/HttpFraming$BodyReader" "chunked" "Z" (.int (0 : Int32)) := (f3_4).other W4 (Or.inr (slot_ne (Or.inr (hw _ (List.mem_of_getElem? (i := 67) rfl))) (Or.inr (hw _ (List.mem_of_getElem? (i := 32) rfl))) (by decide) (t := .boolean) (t' := (.object "java/io/ByteArrayOutputStream")) (by decide) (by decide)))
  have f4_4 : Fld Z h4 a1 "com/example/tillwire/tillwire/HttpFraming$BodyReader" "keep" "I" (.int (0 : Int32)) := (f3_5).other W4 (Or.inr (slot_ne (Or.inr (hw _ (List.mem_of_getElem? (i := 69) rfl))) (Or.inr (hw _ (List.mem_of_getElem? (i := 32) rfl))) (by decide) (t := .int) (t' := (.object "java/io/ByteArrayOutputStream")) (by decide) (by decide)))
  have f4_5 : Fld Z h4 a1 "com/example/tillwire/tillwire/HttpFraming$BodyReader" "skip" "J" (.long (0 : Int64)) := (f3_6).other W4 (Or.inr (slot_ne (Or.inr (hw _ (List.mem_of_getElem? (i := 71) rfl))) (Or.inr (hw _ (List.mem_of_getElem? (i := 32) rfl))) (by decide) (t := .long) (t' := (.object "java/io/ByteArrayOutputStream")) (by decide) (by decide)))
  have f4_6 : Fld Z h4 a1 "com/example/tillwire/tillwire/HttpFraming$BodyReader" "part" "Lcom/example/tillwire/tillwire/HttpFraming$BodyReader$Part;" .null := (f3_7).other W4 (Or.inr (slot_ne (Or.inl (hw _ (List.mem_of_getElem? (i := 77) rfl))) (Or.inr (hw _ (List.mem_of_getElem? (i := 32) rfl))) (by decide) (t := (.object "com/example/tillwire/tillwire/HttpFraming$BodyReader$Part")) (t' := (.object "java/io/ByteArrayOutputStream")) (by decide) (by decide)))
  have f4_7 : Fld Z h4 a1 "com/example/tillwire/tillwire/HttpFraming$BodyReader" "passed" "J" (.long (0 : Int64)) := (f3_8).other W4 (Or.inr (slot_ne (Or.inl (hw _ (List.mem_of_getElem? (i := 123) rfl))) (Or.inr (hw _ (List.mem_of_getElem? (i := 32) rfl))) (by decide) (t := .long) (t' := (.object "java/io/ByteArrayOutputStream")) (by decide) (by decide)))
  have f4_8 : Fld Z h4 a1 "com/example/tillwire/tillwire/HttpFraming$BodyReader" "left" "J" (.long (0 : Int64)) := (f3_9).other W4 (Or.inr (slot_ne (Or.inl (hw _ (List.mem_of_getElem? (i := 127) rfl))) (Or.inr (hw _ (List.mem_of_getElem? (i := 32) rfl))) (by decide) (t := .long) (t' := (.object "java/io/ByteArrayOutputStream")) (by decide) (by decide)))
  have f4_9 : Fld Z h4 a1 "com/example/tillwire/tillwire/HttpFraming$BodyReader" "skipped" "J" (.long (0 : Int64)) := (f3_10).other W4 (Or.inr (slot_ne (Or.inl (hw _ (List.mem_of_getElem? (i := 133) rfl))) (Or.inr (hw _ (List.mem_of_getElem? (i := 32) rfl))) (by decide) (t := .long) (t' := (.object "java/io/ByteArrayOutputStream")) (by decide) (by decide)))
  have f4_10 : Exa Z h4 b2 "java/io/ByteArrayOutputStream" := (fp3_0).wr W4
  have f4_11 : Unt h4 b2 := Unt.wr W4 fp3_1
  have f4_12 : Fld Z h4 b2 "java/io/ByteArrayOutputStream" "buf" "[B" (.ref b3_b1_b2) := (fp3_2).other W4 (Or.inl (ne_exa fp3_0 f3_0 (by decide)))
  have f4_13 : Fld Z h4 b2 "java/io/ByteArrayOutputStream" "count" "I" (.int (0 : Int32)) := (fp3_3).other W4 (Or.inl (ne_exa fp3_0 f3_0 (by decide)))
  have f4_14 : Exa Z h4 b3_b1_b2 "[B" := (fp3_4).wr W4
  have f4_15 : Arv Z h4 b3_b1_b2 k3_k1_k2 .byte (32 : Int32) [] (.int (0 : Int32)) := (fp3_5).other W4 (ne_exa fp3_4 f3_0 (by decide))
  have O4 := O3.wr W4 g_a1
  have N4 := Fr.snoc X4 N3 g_a1
  have K4 : Keep h0 h4 [a1] := K3.wr W4 (Or.inl (List.mem_of_getElem? (i := 0) rfl))
  obtain ⟨T5, h5, X5, e5, E5, A5, D5, U5, st5⟩ := newO X4 hx hZ hown (hw _ (List.mem_of_getElem? (i := 33) rfl)) (hw _ (List.mem_of_getElem? (i := 34) rfl)) (hw _ (List.mem_of_getElem? (i := 35) rfl)) e4 (g := (mkF m 16 #[.val (.ref a1), .val (.long (0 : Int64)), .second, .val (.int p3), .val (.long q4), .second, .unset, .unset] [(.ref a1)])) rfl (hb hby d1_16) (by decide) (by decide)
  obtain ⟨b5, g5⟩ : ∃ z, z = h4.size := ⟨_, rfl⟩
  rw [← g5] at A5 D5 U5 st5
  have lt_a1_b5 : a1 < h4.size := (f4_0).lt
  have lt_b2_b5 : b2 < h4.size := (f4_10).lt
  have lt_b3_b1_b2_b5 : b3_b1_b2 < h4.size := (f4_14).lt
  have g_b5 : n0 ≤ b5 := by rw [g5]; exact O4.1 ▸ O4.2.1
  have sz_b5 : h0.size ≤ b5 := by rw [g5]; exact K4.1
  have f5_0 : Exa Z h5 a1 "com/example/tillwire/tillwire/HttpFraming$BodyReader" := (f4_0).ext E5
  have f5_1 : Fld Z h5 a1 "com/example/tillwire/tillwire/HttpFraming$BodyReader" "line" "Lcom/example/tillwire/tillwire/HttpFraming$Line;" .null := (f4_1).ext E5
  have f5_2 : Fld Z h5 a1 "com/example/tillwire/tillwire/HttpFraming$BodyReader" "whole" "Z" (.int (0 : Int32)) := (f4_2).ext E5
  have f5_3 : Fld Z h5 a1 "com/example/tillwire/tillwire/HttpFraming$BodyReader" "chunked" "Z" (.int (0 : Int32)) := (f4_3).ext E5
  have f5_4 : Fld Z h5 a1 "com/example/tillwire/tillwire/HttpFraming$BodyReader" "keep" "I" (.int (0 : Int32)) := (f4_4).ext E5
  have f5_5 : Fld Z h5 a1 "com/example/tillwire/tillwire/HttpFraming$BodyReader" "skip" "J" (.long (0 : Int64)) := (f4_5).ext E5
  have f5_6 : Fld Z h5 a1 "com/example/tillwire/tillwire/HttpFraming$BodyReader" "part" "Lcom/example/tillwire/tillwire/HttpFraming$BodyReader$Part;" .null := (f4_6).ext E5
  have f5_7 : Fld Z h5 a1 "com/example/tillwire/tillwire/HttpFraming$BodyReader" "passed" "J" (.long (0 : Int64)) := (f4_7).ext E5
  have f5_8 : Fld Z h5 a1 "com/example/tillwire/tillwire/HttpFraming$BodyReader" "left" "J" (.long (0 : Int64)) := (f4_8).ext E5
  have f5_9 : Fld Z h5 a1 "com/example/tillwire/tillwire/HttpFraming$BodyReader" "skipped" "J" (.long (0 : Int64)) := (f4_9).ext E5
  have f5_10 : Exa Z h5 b2 "java/io/ByteArrayOutputStream" := (f4_10).ext E5
  have f5_11 : Unt h5 b2 := Unt.ext E5 f4_11
  have f5_12 : Fld Z h5 b2 "java/io/ByteArrayOutputStream" "buf" "[B" (.ref b3_b1_b2) := (f4_12).ext E5
  have f5_13 : Fld Z h5 b2 "java/io/ByteArrayOutputStream" "count" "I" (.int (0 : Int32)) := (f4_13).ext E5
  have f5_14 : Exa Z h5 b3_b1_b2 "[B" := (f4_14).ext E5
  have f5_15 : Arv Z h5 b3_b1_b2 k3_k1_k2 .byte (32 : Int32) [] (.int (0 : Int32)) := (f4_15).ext E5
  have f5_16 : Fld Z h5 a1 "com/example/tillwire/tillwire/HttpFraming$BodyReader" "kept" "Ljava/io/ByteArrayOutputStream;" (.ref b2) := (fw4).ext E5
  have O5 := O4.ext E5
  have K5 : Keep h0 h5 [a1] := K4.ext E5
  have f5_text : Fld Z h5 b5 "com/example/tillwire/tillwire/HttpFraming$Line" "text" "Ljava/lang/StringBuilder;" .null := D5 (Or.inr (hw _ (List.mem_of_getElem? (i := 60) rfl))) (ty := (.object "java/lang/StringBuilder")) (by decide)
  obtain ⟨_, _, ⟨T6, L6, k6, n6⟩, -, X6, ⟨Lc6, hQ6, l6, y6, z6⟩, st6⟩ := X5.specialBackNest hx (y := (⟨"com/example/tillwire/tillwire/HttpFraming$Line", "<init>", "()V"⟩ : MethodName)) rfl hown (Cond.methodLinkNest_wide hZ (hw _ (List.mem_of_getElem? (i := 36) rfl)) :) (mvT hZ (hw _ (List.mem_of_getElem? (i := 37) rfl))) (mvT hZ (hw _ (List.mem_of_getElem? (i := 38) rfl))) (by decide) (backOf (W := 2) (rm_ln l Z a0 hw [] W b5 h5 n0 O5 g_b5 A5 f5_text) hZ (hw _ (List.mem_of_getElem? (i := 38) rfl)) (hw _ (List.mem_of_getElem? (i := 35) rfl)) (by decide) (by decide)) (g := (mkF m 20 #[.val (.ref a1), .val (.long (0 : Int64)), .second, .val (.int p3), .val (.long q4), .second, .unset, .unset] [(.ref b5), (.ref b5), (.ref a1)])) rfl (by rw [hml]; rfl) (Steps.refl _) (a := b5) (argsL := []) (rest := [(.ref b5), (.ref a1)]) (lenOf pd_0 rfl) rfl (by show 2 * 0 + _ ≤ _; exact Nat.le_of_eq rfl) (hb hby d1_20) (fun _ _ => ⟨rfl, e5, (by decide : 3 + 2 ≤ _), (by decide : 36 + 20 ≤ _)⟩)
  dsimp only [Pt.U, Pt.locs, Pt.cells, Pt.slots] at X6 l6 y6 z6 st6 hQ6
  subst l6 y6 z6
  obtain ⟨N6q, hP6⟩ := hQ6
  have N6 := Fr.app N4 N6q
  obtain ⟨rfl, Kp6, fp6_0⟩ := hP6
  have f6_0 : Exa Z T6.heap a1 "com/example/tillwire/tillwire/HttpFraming$BodyReader" := (f5_0).keep Kp6
  have f6_1 : Fld Z T6.heap a1 "com/example/tillwire/tillwire/HttpFraming$BodyReader" "line" "Lcom/example/tillwire/tillwire/HttpFraming$Line;" .null := (f5_1).keep Kp6 (ninS (ne_exa f5_0 A5 (by decide)) nin0)
  have f6_2 : Fld Z T6.heap a1 "com/example/tillwire/tillwire/HttpFraming$BodyReader" "whole" "Z" (.int (0 : Int32)) := (f5_2).keep Kp6 (ninS (ne_exa f5_0 A5 (by decide)) nin0)
  have f6_3 : Fld Z T6.heap a1 "com/example/tillwire/tillwire/HttpFraming$BodyReader" "chunked" "Z" (.int (0 : Int32)) := (f5_3).keep Kp6 (ninS (ne_exa f5_0 A5 (by decide)) nin0)
  have f6_4 : Fld Z T6.heap a1 "com/example/tillwire/tillwire/HttpFraming$BodyReader" "keep" "I" (.int (0 : Int32)) := (f5_4).keep Kp6 (ninS (ne_exa f5_0 A5 (by decide)) nin0)
  have f6_5 : Fld Z T6.heap a1 "com/example/tillwire/tillwire/HttpFraming$BodyReader" "skip" "J" (.long (0 : Int64)) := (f5_5).keep Kp6 (ninS (ne_exa f5_0 A5 (by decide)) nin0)
  have f6_6 : Fld Z T6.heap a1 "com/example/tillwire/tillwire/HttpFraming$BodyReader" "part" "Lcom/example/tillwire/tillwire/HttpFraming$BodyReader$Part;" .null := (f5_6).keep Kp6 (ninS (ne_exa f5_0 A5 (by decide)) nin0)
  have f6_7 : Fld Z T6.heap a1 "com/example/tillwire/tillwire/HttpFraming$BodyReader" "passed" "J" (.long (0 : Int64)) := (f5_7).keep Kp6 (ninS (ne_exa f5_0 A5 (by decide)) nin0)
  have f6_8 : Fld Z T6.heap a1 "com/example/tillwire/tillwire/HttpFraming$BodyReader" "left" "J" (.long (0 : Int64)) := (f5_8).keep Kp6 (ninS (ne_exa f5_0 A5 (by decide)) nin0)
  have f6_9 : Fld Z T6.heap a1 "com/example/tillwire/tillwire/HttpFraming$BodyReader" "skipped" "J" (.long (0 : Int64)) := (f5_9).keep Kp6 (ninS (ne_exa f5_0 A5 (by decide)) nin0)
  have f6_10 : Exa Z T6.heap b2 "java/io/ByteArrayOutputStream" := (f5_10).keep Kp6
  have f6_11 : Unt T6.heap b2 := own_untk f5_11 Kp6 (ninS (ne_exa f5_10 A5 (by decide)) nin0)
  have f6_12 : Fld Z T6.heap b2 "java/io/ByteArrayOutputStream" "buf" "[B" (.ref b3_b1_b2) := (f5_12).keep Kp6 (ninS (ne_exa f5_10 A5 (by decide)) nin0)
  have f6_13 : Fld Z T6.heap b2 "java/io/ByteArrayOutputStream" "count" "I" (.int (0 : Int32)) := (f5_13).keep Kp6 (ninS (ne_exa f5_10 A5 (by decide)) nin0)
  have f6_14 : Exa Z T6.heap b3_b1_b2 "[B" := (f5_14).keep Kp6
  have f6_15 : Arv Z T6.heap b3_b1_b2 k3_k1_k2 .byte (32 : Int32) [] (.int (0 : Int32)) := (f5_15).keep Kp6 (ninS (ne_exa f5_14 A5 (by decide)) nin0)
  have f6_16 : Fld Z T6.heap a1 "com/example/tillwire/tillwire/HttpFraming$BodyReader" "kept" "Ljava/io/ByteArrayOutputStream;" (.ref b2) := (f5_16).keep Kp6 (ninS (ne_exa f5_0 A5 (by decide)) nin0)
  have f6_17 : Exa Z T6.heap b5 "com/example/tillwire/tillwire/HttpFraming$Line" := (A5).keep Kp6
  have O6 := O5.keep Kp6 (allS g_b5 all0)
  have K6 : Keep h0 T6.heap [a1] := K5.trans Kp6 (allS (Or.inr sz_b5) all0)
  obtain ⟨T7, h7, X7, e7, W7, st7⟩ := putF X6 hx hZ hown (host := "") (Or.inl (hw _ (List.mem_of_getElem? (i := 61) rfl))) Via.refl rfl f6_1 f6_0 (Or.inr ⟨(hw _ (List.mem_of_getElem? (i := 62) rfl)), rfl, hnm⟩) (hw _ (List.mem_of_getElem? (i := 3) rfl)) (ty := (.object "com/example/tillwire/tillwire/HttpFraming$Line")) (by decide) rfl rfl (g := (mkF m 23 #[.val (.ref a1), .val (.long (0 : Int64)), .second, .val (.int p3), .val (.long q4), .second, .unset, .unset] [(.ref b5), (.ref a1)])) rfl rfl (hb hby d1_23)
  have fw7 : Fld Z h7 a1 "com/example/tillwire/tillwire/HttpFraming$BodyReader" "line" "Lcom/example/tillwire/tillwire/HttpFraming$Line;" (.ref b5) := (f6_1).same W7
  have f7_0 : Exa Z h7 a1 "com/example/tillwire/tillwire/HttpFraming$BodyReader" := (f6_0).wr W7
  have f7_1 : Fld Z h7 a1 "com/example/tillwire/tillwire/HttpFraming$BodyReader" "whole" "Z" (.int (0 : Int32)) := (f6_2).other W7 (Or.inr (slot_ne (Or.inl (hw _ (List.mem_of_getElem? (i := 64) rfl))) (Or.inr (hw _ (List.mem_of_getElem? (i := 62) rfl))) (by decide) (t := .boolean) (t' := (.object "com/example/tillwire/tillwire/HttpFraming$Line")) (by decide) (by decide)))
  have f7_2 : Fld Z h7 a1 "com/example/tillwire/tillwire/HttpFraming$BodyReader" "chunked" "Z" (.int (0 : Int32)) := (f6_3).other W7 (Or.inr (slot_ne (Or.inr (hw _ (List.mem_of_getElem? (i := 67) rfl))) (Or.inr (hw _ (List.mem_of_getElem? (i := 62) rfl))) (by decide) (t := .boolean) (t' := (.object "com/example/tillwire/tillwire/HttpFraming$Line")) (by decide) (by decide)))
  have f7_3 : Fld Z h7 a1 "com/example/tillwire/tillwire/HttpFraming$BodyReader" "keep" "I" (.int (0 : Int32)) := (f6_4).other W7 (Or.inr (slot_ne (Or.inr (hw _ (List.mem_of_getElem? (i := 69) rfl))) (Or.inr (hw _ (List.mem_of_getElem? (i := 62) rfl))) (by decide) (t := .int) (t' := (.object "com/example/tillwire/tillwire/HttpFraming$Line")) (by decide) (by decide)))
  have f7_4 : Fld Z h7 a1 "com/example/tillwire/tillwire/HttpFraming$BodyReader" "skip" "J" (.long (0 : Int64)) := (f6_5).other W7 (Or.inr (slot_ne (Or.inr (hw _ (List.mem_of_getElem? (i := 71) rfl))) (Or.inr (hw _ (List.mem_of_getElem? (i := 62) rfl))) (by decide) (t := .long) (t' := (.object "com/example/tillwire/tillwire/HttpFraming$Line")) (by decide) (by decide)))
  have f7_5 : Fld Z h7 a1 "com/example/tillwire/tillwire/HttpFraming$BodyReader" "part" "Lcom/example/tillwire/tillwire/HttpFraming$BodyReader$Part;" .null := (f6_6).other W7 (Or.inr (slot_ne (Or.inl (hw _ (List.mem_of_getElem? (i := 77) rfl))) (Or.inr (hw _ (List.mem_of_getElem? (i := 62) rfl))) (by decide) (t := (.object "com/example/tillwire/tillwire/HttpFraming$BodyReader$Part")) (t' := (.object "com/example/tillwire/tillwire/HttpFraming$Line")) (by decide) (by decide)))
  have f7_6 : Fld Z h7 a1 "com/example/tillwire/tillwire/HttpFraming$BodyReader" "passed" "J" (.long (0 : Int64)) := (f6_7).other W7 (Or.inr (slot_ne (Or.inl (hw _ (List.mem_of_getElem? (i := 123) rfl))) (Or.inr (hw _ (List.mem_of_getElem? (i := 62) rfl))) (by decide) (t := .long) (t' := (.object "com/example/tillwire/tillwire/HttpFraming$Line")) (by decide) (by decide)))
  have f7_7 : Fld Z h7 a1 "com/example/tillwire/tillwire/HttpFraming$BodyReader" "left" "J" (.long (0 : Int64)) := (f6_8).other W7 (Or.inr (slot_ne (Or.inl (hw _ (List.mem_of_getElem? (i := 127) rfl))) (Or.inr (hw _ (List.mem_of_getElem? (i := 62) rfl))) (by decide) (t := .long) (t' := (.object "com/example/tillwire/tillwire/HttpFraming$Line")) (by decide) (by decide)))
  have f7_8 : Fld Z h7 a1 "com/example/tillwire/tillwire/HttpFraming$BodyReader" "skipped" "J" (.long (0 : Int64)) := (f6_9).other W7 (Or.inr (slot_ne (Or.inl (hw _ (List.mem_of_getElem? (i := 133) rfl))) (Or.inr (hw _ (List.mem_of_getElem? (i := 62) rfl))) (by decide) (t := .long) (t' := (.object "com/example/tillwire/tillwire/HttpFraming$Line")) (by decide) (by decide)))
  have f7_9 : Exa Z h7 b2 "java/io/ByteArrayOutputStream" := (f6_10).wr W7
  have f7_10 : Unt h7 b2 := Unt.wr W7 f6_11
  have f7_11 : Fld Z h7 b2 "java/io/ByteArrayOutputStream" "buf" "[B" (.ref b3_b1_b2) := (f6_12).other W7 (Or.inl (ne_exa f6_10 f6_0 (by decide)))
  have f7_12 : Fld Z h7 b2 "java/io/ByteArrayOutputStream" "count" "I" (.int (0 : Int32)) := (f6_13).other W7 (Or.inl (ne_exa f6_10 f6_0 (by decide)))
  have f7_13 : Exa Z h7 b3_b1_b2 "[B" := (f6_14).wr W7
  have f7_14 : Arv Z h7 b3_b1_b2 k3_k1_k2 .byte (32 : Int32) [] (.int (0 : Int32)) := (f6_15).other W7 (ne_exa f6_14 f6_0 (by decide))
  have f7_15 : Fld Z h7 a1 "com/example/tillwire/tillwire/HttpFraming$BodyReader" "kept" "Ljava/io/ByteArrayOutputStream;" (.ref b2) := (f6_16).other W7 (Or.inr (slot_ne (Or.inr (hw _ (List.mem_of_getElem? (i := 32) rfl))) (Or.inr (hw _ (List.mem_of_getElem? (i := 62) rfl))) (by decide) (t := (.object "java/io/ByteArrayOutputStream")) (t' := (.object "com/example/tillwire/tillwire/HttpFraming$Line")) (by decide) (by decide)))
  have f7_16 : Exa Z h7 b5 "com/example/tillwire/tillwire/HttpFraming$Line" := (fp6_0).wr W7
  have O7 := O6.wr W7 g_a1
  have N7 := Fr.snoc X7 N6 g_a1
  have K7 : Keep h0 h7 [a1] := K6.wr W7 (Or.inl (List.mem_of_getElem? (i := 0) rfl))
  obtain ⟨T8, h8, X8, e8, W8, st8⟩ := putFN X7 hx hZ hown (hw _ (List.mem_of_getElem? (i := 63) rfl)) Via.refl e7 f7_1 f7_0 (Or.inl (hw _ (List.mem_of_getElem? (i := 64) rfl))) (hw _ (List.mem_of_getElem? (i := 3) rfl)) (ty := .boolean) (v' := (.int (1 : Int32))) (by decide) rfl rfl (g := (mkF m 28 #[.val (.ref a1), .val (.long (0 : Int64)), .second, .val (.int p3), .val (.long q4), .second, .unset, .unset] [(.int (1 : Int32)), (.ref a1)])) rfl rfl (hb hby d1_28)
  have fw8 : Fld Z h8 a1 "com/example/tillwire/tillwire/HttpFraming$BodyReader" "whole" "Z" (.int (1 : Int32)) := (f7_1).same W8
  have f8_0 : Exa Z h8 a1 "com/example/tillwire/tillwire/HttpFraming$BodyReader" := (f7_0).wr W8
  have f8_1 : Fld Z h8 a1 "com/example/tillwire/tillwire/HttpFraming$BodyReader" "chunked" "Z" (.int (0 : Int32)) := (f7_2).other W8 (Or.inr (slot_ne (Or.inr (hw _ (List.mem_of_getElem? (i := 67) rfl))) (Or.inl (hw _ (List.mem_of_getElem? (i := 64) rfl))) (by decide) (t := .boolean) (t' := .boolean) (by decide) (by decide)))
  have f8_2 : Fld Z h8 a1 "com/example/tillwire/tillwire/HttpFraming$BodyReader" "keep" "I" (.int (0 : Int32)) := (f7_3).other W8 (Or.inr (slot_ne (Or.inr (hw _ (List.mem_of_getElem? (i := 69) rfl))) (Or.inl (hw _ (List.mem_of_getElem? (i := 64) rfl))) (by decide) (t := .int) (t' := .boolean) (by decide) (by decide)))
  have f8_3 : Fld Z h8 a1 "com/example/tillwire/tillwire/HttpFraming$BodyReader" "skip" "J" (.long (0 : Int64)) := (f7_4).other W8 (Or.inr (slot_ne (Or.inr (hw _ (List.mem_of_getElem? (i := 71) rfl))) (Or.inl (hw _ (List.mem_of_getElem? (i := 64) rfl))) (by decide) (t := .long) (t' := .boolean) (by decide) (by decide)))
  have f8_4 : Fld Z h8 a1 "com/example/tillwire/tillwire/HttpFraming$BodyReader" "part" "Lcom/example/tillwire/tillwire/HttpFraming$BodyReader$Part;" .null := (f7_5).other W8 (Or.inr (slot_ne (Or.inl (hw _ (List.mem_of_getElem? (i := 77) rfl))) (Or.inl (hw _ (List.mem_of_getElem? (i := 64) rfl))) (by decide) (t := (.object "com/example/tillwire/tillwire/HttpFraming$BodyReader$Part")) (t' := .boolean) (by decide) (by decide)))
  have f8_5 : Fld Z h8 a1 "com/example/tillwire/tillwire/HttpFraming$BodyReader" "passed" "J" (.long (0 : Int64)) := (f7_6).other W8 (Or.inr (slot_ne (Or.inl (hw _ (List.mem_of_getElem? (i := 123) rfl))) (Or.inl (hw _ (List.mem_of_getElem? (i := 64) rfl))) (by decide) (t := .long) (t' := .boolean) (by decide) (by decide)))
  have f8_6 : Fld Z h8 a1 "com/example/tillwire/tillwire/HttpFraming$BodyReader" "left" "J" (.long (0 : Int64)) := (f7_7).other W8 (Or.inr (slot_ne (Or.inl (hw _ (List.mem_of_getElem? (i := 127) rfl))) (Or.inl (hw _ (List.mem_of_getElem? (i := 64) rfl))) (by decide) (t := .long) (t' := .boolean) (by decide) (by decide)))
  have f8_7 : Fld Z h8 a1 "com/example/tillwire/tillwire/HttpFraming$BodyReader" "skipped" "J" (.long (0 : Int64)) := (f7_8).other W8 (Or.inr (slot_ne (Or.inl (hw _ (List.mem_of_getElem? (i := 133) rfl))) (Or.inl (hw _ (List.mem_of_getElem? (i := 64) rfl))) (by decide) (t := .long) (t' := .boolean) (by decide) (by decide)))
  have f8_8 : Exa Z h8 b2 "java/io/ByteArrayOutputStream" := (f7_9).wr W8
  have f8_9 : Unt h8 b2 := Unt.wr W8 f7_10
  have f8_10 : Fld Z h8 b2 "java/io/ByteArrayOutputStream" "buf" "[B" (.ref b3_b1_b2) := (f7_11).other W8 (Or.inl (ne_exa f7_9 f7_0 (by decide)))
  have f8_11 : Fld Z h8 b2 "java/io/ByteArrayOutputStream" "count" "I" (.int (0 : Int32)) := (f7_12).other W8 (Or.inl (ne_exa f7_9 f7_0 (by decide)))
  have f8_12 : Exa Z h8 b3_b1_b2 "[B" := (f7_13).wr W8
  have f8_13 : Arv Z h8 b3_b1_b2 k3_k1_k2 .byte (32 : Int32) [] (.int (0 : Int32)) := (f7_14).other W8 (ne_exa f7_13 f7_0 (by decide))
  have f8_14 : Fld Z h8 a1 "com/example/tillwire/tillwire/HttpFraming$BodyReader" "kept" "Ljava/io/ByteArrayOutputStream;" (.ref b2) := (f7_15).other W8 (Or.inr (slot_ne (Or.inr (hw _ (List.mem_of_getElem? (i := 32) rfl))) (Or.inl (hw _ (List.mem_of_getElem? (i := 64) rfl))) (by decide) (t := (.object "java/io/ByteArrayOutputStream")) (t' := .boolean) (by decide) (by decide)))
  have f8_15 : Exa Z h8 b5 "com/example/tillwire/tillwire/HttpFraming$Line" := (f7_16).wr W8
  have f8_16 : Fld Z h8 a1 "com/example/tillwire/tillwire/HttpFraming$BodyReader" "line" "Lcom/example/tillwire/tillwire/HttpFraming$Line;" (.ref b5) := (fw7).other W8 (Or.inr (slot_ne (Or.inr (hw _ (List.mem_of_getElem? (i := 62) rfl))) (Or.inl (hw _ (List.mem_of_getElem? (i := 64) rfl))) (by decide) (t := (.object "com/example/tillwire/tillwire/HttpFraming$Line")) (t' := .boolean) (by decide) (by decide)))
  have O8 := O7.wr W8 g_a1
  have N8 := Fr.snoc X8 N7 g_a1
  have K8 : Keep h0 h8 [a1] := K7.wr W8 (Or.inl (List.mem_of_getElem? (i := 0) rfl))
  obtain ⟨T9, h9, X9, e9, W9, st9⟩ := putFN X8 hx hZ hown (hw _ (List.mem_of_getElem? (i := 66) rfl)) Via.refl e8 f8_1 f8_0 (Or.inr ⟨(hw _ (List.mem_of_getElem? (i := 67) rfl)), rfl, hnm⟩) (hw _ (List.mem_of_getElem? (i := 3) rfl)) (ty := .boolean) (v' := (.int (0 : Int32))) (by decide) rfl rfl (g := (mkF m 45 #[.val (.ref a1), .val (.long (0 : Int64)), .second, .val (.int p3), .val (.long q4), .second, .unset, .unset] [(.int (0 : Int32)), (.ref a1)])) rfl rfl (hb hby d1_45)
  have fw9 : Fld Z h9 a1 "com/example/tillwire/tillwire/HttpFraming$BodyReader" "chunked" "Z" (.int (0 : Int32)) := (f8_1).same W9
  have f9_0 : Exa Z h9 a1 "com/example/tillwire/tillwire/HttpFraming$BodyReader" := (f8_0).wr W9
  have f9_1 : Fld Z h9 a1 "com/example/tillwire/tillwire/HttpFraming$BodyReader" "keep" "I" (.int (0 : Int32)) := (f8_2).other W9 (Or.inr (slot_ne (Or.inr (hw _ (List.mem_of_getElem? (i := 69) rfl))) (Or.inr (hw _ (List.mem_of_getElem? (i := 67) rfl))) (by decide) (t := .int) (t' := .boolean) (by decide) (by decide)))
  have f9_2 : Fld Z h9 a1 "com/example/tillwire/tillwire/HttpFraming$BodyReader" "skip" "J" (.long (0 : Int64)) := (f8_3).other W9 (Or.inr (slot_ne (Or.inr (hw _ (List.mem_of_getElem? (i := 71) rfl))) (Or.inr (hw _ (List.mem_of_getElem? (i := 67) rfl))) (by decide) (t := .long) (t' := .boolean) (by decide) (by decide)))
  have f9_3 : Fld Z h9 a1 "com/example/tillwire/tillwire/HttpFraming$BodyReader" "part" "Lcom/example/tillwire/tillwire/HttpFraming$BodyReader$Part;" .null := (f8_4).other W9 (Or.inr (slot_ne (Or.inl (hw _ (List.mem_of_getElem? (i := 77) rfl))) (Or.inr (hw _ (List.mem_of_getElem? (i := 67) rfl))) (by decide) (t := (.object "com/example/tillwire/tillwire/HttpFraming$BodyReader$Part")) (t' := .boolean) (by decide) (by decide)))
  have f9_4 : Fld Z h9 a1 "com/example/tillwire/tillwire/HttpFraming$BodyReader" "passed" "J" (.long (0 : Int64)) := (f8_5).other W9 (Or.inr (slot_ne (Or.inl (hw _ (List.mem_of_getElem? (i := 123) rfl))) (Or.inr (hw _ (List.mem_of_getElem? (i := 67) rfl))) (by decide) (t := .long) (t' := .boolean) (by decide) (by decide)))
  have f9_5 : Fld Z h9 a1 "com/example/tillwire/tillwire/HttpFraming$BodyReader" "left" "J" (.long (0 : Int64)) := (f8_6).other W9 (Or.inr (slot_ne (Or.inl (hw _ (List.mem_of_getElem? (i := 127) rfl))) (Or.inr (hw _ (List.mem_of_getElem? (i := 67) rfl))) (by decide) (t := .long) (t' := .boolean) (by decide) (by decide)))
  have f9_6 : Fld Z h9 a1 "com/example/tillwire/tillwire/HttpFraming$BodyReader" "skipped" "J" (.long (0 : Int64)) := (f8_7).other W9 (Or.inr (slot_ne (Or.inl (hw _ (List.mem_of_getElem? (i := 133) rfl))) (Or.inr (hw _ (List.mem_of_getElem? (i := 67) rfl))) (by decide) (t := .long) (t' := .boolean) (by decide) (by decide)))
  have f9_7 : Exa Z h9 b2 "java/io/ByteArrayOutputStream" := (f8_8).wr W9
  have f9_8 : Unt h9 b2 := Unt.wr W9 f8_9
  have f9_9 : Fld Z h9 b2 "java/io/ByteArrayOutputStream" "buf" "[B" (.ref b3_b1_b2) := (f8_10).other W9 (Or.inl (ne_exa f8_8 f8_0 (by decide)))
  have f9_10 : Fld Z h9 b2 "java/io/ByteArrayOutputStream" "count" "I" (.int (0 : Int32)) := (f8_11).other W9 (Or.inl (ne_exa f8_8 f8_0 (by decide)))
  have f9_11 : Exa Z h9 b3_b1_b2 "[B" := (f8_12).wr W9
  have f9_12 : Arv Z h9 b3_b1_b2 k3_k1_k2 .byte (32 : Int32) [] (.int (0 : Int32)) := (f8_13).other W9 (ne_exa f8_12 f8_0 (by decide))
  have f9_13 : Fld Z h9 a1 "com/example/tillwire/tillwire/HttpFraming$BodyReader" "kept" "Ljava/io/ByteArrayOutputStream;" (.ref b2) := (f8_14).other W9 (Or.inr (slot_ne (Or.inr (hw _ (List.mem_of_getElem? (i := 32) rfl))) (Or.inr (hw _ (List.mem_of_getElem? (i := 67) rfl))) (by decide) (t := (.object "java/io/ByteArrayOutputStream")) (t' := .boolean) (by decide) (by decide)))
  have f9_14 : Exa Z h9 b5 "com/example/tillwire/tillwire/HttpFraming$Line" := (f8_15).wr W9
  have f9_15 : Fld Z h9 a1 "com/example/tillwire/tillwire/HttpFraming$BodyReader" "line" "Lcom/example/tillwire/tillwire/HttpFraming$Line;" (.ref b5) := (f8_16).other W9 (Or.inr (slot_ne (Or.inr (hw _ (List.mem_of_getElem? (i := 62) rfl))) (Or.inr (hw _ (List.mem_of_getElem? (i := 67) rfl))) (by decide) (t := (.object "com/example/tillwire/tillwire/HttpFraming$Line")) (t' := .boolean) (by decide) (by decide)))
  have f9_16 : Fld Z h9 a1 "com/example/tillwire/tillwire/HttpFraming$BodyReader" "whole" "Z" (.int (1 : Int32)) := (fw8).other W9 (Or.inr (slot_ne (Or.inl (hw _ (List.mem_of_getElem? (i := 64) rfl))) (Or.inr (hw _ (List.mem_of_getElem? (i := 67) rfl))) (by decide) (t := .boolean) (t' := .boolean) (by decide) (by decide)))
  have O9 := O8.wr W9 g_a1
  have N9 := Fr.snoc X9 N8 g_a1
  have K9 : Keep h0 h9 [a1] := K8.wr W9 (Or.inl (List.mem_of_getElem? (i := 0) rfl))
  obtain ⟨T10, h10, X10, e10, W10, st10⟩ := putF X9 hx hZ hown (host := "") (Or.inl (hw _ (List.mem_of_getElem? (i := 68) rfl))) Via.refl e9 f9_1 f9_0 (Or.inr ⟨(hw _ (List.mem_of_getElem? (i := 69) rfl)), rfl, hnm⟩) (hw _ (List.mem_of_getElem? (i := 3) rfl)) (ty := .int) (by decide) rfl rfl (g := (mkF m 50 #[.val (.ref a1), .val (.long (0 : Int64)), .second, .val (.int p3), .val (.long q4), .second, .unset, .unset] [(.int p3), (.ref a1)])) rfl rfl (hb hby d1_50)
  have fw10 : Fld Z h10 a1 "com/example/tillwire/tillwire/HttpFraming$BodyReader" "keep" "I" (.int p3) := (f9_1).same W10
  have f10_0 : Exa Z h10 a1 "com/example/tillwire/tillwire/HttpFraming$BodyReader" := (f9_0).wr W10
  have f10_1 : Fld Z h10 a1 "com/example/tillwire/tillwire/HttpFraming$BodyReader" "skip" "J" (.long (0 : Int64)) := (f9_2).other W10 (Or.inr (slot_ne (Or.inr (hw _ (List.mem_of_getElem? (i := 71) rfl))) (Or.inr (hw _ (List.mem_of_getElem? (i := 69) rfl))) (by decide) (t := .long) (t' := .int) (by decide) (by decide)))
  have f10_2 : Fld Z h10 a1 "com/example/tillwire/tillwire/HttpFraming$BodyReader" "part" "Lcom/example/tillwire/tillwire/HttpFraming$BodyReader$Part;" .null := (f9_3).other W10 (Or.inr (slot_ne (Or.inl (hw _ (List.mem_of_getElem? (i := 77) rfl))) (Or.inr (hw _ (List.mem_of_getElem? (i := 69) rfl))) (by decide) (t := (.object "com/example/tillwire/tillwire/HttpFraming$BodyReader$Part")) (t' := .int) (by decide) (by decide)))
  have f10_3 : Fld Z h10 a1 "com/example/tillwire/tillwire/HttpFraming$BodyReader" "passed" "J" (.long (0 : Int64)) := (f9_4).other W10 (Or.inr (slot_ne (Or.inl (hw _ (List.mem_of_getElem? (i := 123) rfl))) (Or.inr (hw _ (List.mem_of_getElem? (i := 69) rfl))) (by decide) (t := .long) (t' := .int) (by decide) (by decide)))
  have f10_4 : Fld Z h10 a1 "com/example/tillwire/tillwire/HttpFraming$BodyReader" "left" "J" (.long (0 : Int64)) := (f9_5).other W10 (Or.inr (slot_ne (Or.inl (hw _ (List.mem_of_getElem? (i := 127) rfl))) (Or.inr (hw _ (List.mem_of_getElem? (i := 69) rfl))) (by decide) (t := .long) (t' := .int) (by decide) (by decide)))
  have f10_5 : Fld Z h10 a1 "com/example/tillwire/tillwire/HttpFraming$BodyReader" "skipped" "J" (.long (0 : Int64)) := (f9_6).other W10 (Or.inr (slot_ne (Or.inl (hw _ (List.mem_of_getElem? (i := 133) rfl))) (Or.inr (hw _ (List.mem_of_getElem? (i := 69) rfl))) (by decide) (t := .long) (t' := .int) (by decide) (by decide)))
  have f10_6 : Exa Z h10 b2 "java/io/ByteArrayOutputStream" := (f9_7).wr W10
  have f10_7 : Unt h10 b2 := Unt.wr W10 f9_8
  have f10_8 : Fld Z h10 b2 "java/io/ByteArrayOutputStream" "buf" "[B" (.ref b3_b1_b2) := (f9_9).other W10 (Or.inl (ne_exa f9_7 f9_0 (by decide)))
  have f10_9 : Fld Z h10 b2 "java/io/ByteArrayOutputStream" "count" "I" (.int (0 : Int32)) := (f9_10).other W10 (Or.inl (ne_exa f9_7 f9_0 (by decide)))
  have f10_10 : Exa Z h10 b3_b1_b2 "[B" := (f9_11).wr W10
  have f10_11 : Arv Z h10 b3_b1_b2 k3_k1_k2 .byte (32 : Int32) [] (.int (0 : Int32)) := (f9_12).other W10 (ne_exa f9_11 f9_0 (by decide))
  have f10_12 : Fld Z h10 a1 "com/example/tillwire/tillwire/HttpFraming$BodyReader" "kept" "Ljava/io/ByteArrayOutputStream;" (.ref b2) := (f9_13).other W10 (Or.inr (slot_ne (Or.inr (hw _ (List.mem_of_getElem? (i := 32) rfl))) (Or.inr (hw _ (List.mem_of_getElem? (i := 69) rfl))) (by decide) (t := (.object "java/io/ByteArrayOutputStream")) (t' := .int) (by decide) (by decide)))
  have f10_13 : Exa Z h10 b5 "com/example/tillwire/tillwire/HttpFraming$Line" := (f9_14).wr W10
  have f10_14 : Fld Z h10 a1 "com/example/tillwire/tillwire/HttpFraming$BodyReader" "line" "Lcom/example/tillwire/tillwire/HttpFraming$Line;" (.ref b5) := (f9_15).other W10 (Or.inr (slot_ne (Or.inr (hw _ (List.mem_of_getElem? (i := 62) rfl))) (Or.inr (hw _ (List.mem_of_getElem? (i := 69) rfl))) (by decide) (t := (.object "com/example/tillwire/tillwire/HttpFraming$Line")) (t' := .int) (by decide) (by decide)))
  have f10_15 : Fld Z h10 a1 "com/example/tillwire/tillwire/HttpFraming$BodyReader" "whole" "Z" (.int (1 : Int32)) := (f9_16).other W10 (Or.inr (slot_ne (Or.inl (hw _ (List.mem_of_getElem? (i := 64) rfl))) (Or.inr (hw _ (List.mem_of_getElem? (i := 69) rfl))) (by decide) (t := .boolean) (t' := .int) (by decide) (by decide)))
  have f10_16 : Fld Z h10 a1 "com/example/tillwire/tillwire/HttpFraming$BodyReader" "chunked" "Z" (.int (0 : Int32)) := (fw9).other W10 (Or.inr (slot_ne (Or.inr (hw _ (List.mem_of_getElem? (i := 67) rfl))) (Or.inr (hw _ (List.mem_of_getElem? (i := 69) rfl))) (by decide) (t := .boolean) (t' := .int) (by decide) (by decide)))
  have O10 := O9.wr W10 g_a1
  have N10 := Fr.snoc X10 N9 g_a1
  have K10 : Keep h0 h10 [a1] := K9.wr W10 (Or.inl (List.mem_of_getElem? (i := 0) rfl))
  obtain ⟨T11, h11, X11, e11, W11, st11⟩ := putF X10 hx hZ hown (host := "") (Or.inl (hw _ (List.mem_of_getElem? (i := 70) rfl))) Via.refl e10 f10_1 f10_0 (Or.inr ⟨(hw _ (List.mem_of_getElem? (i := 71) rfl)), rfl, hnm⟩) (hw _ (List.mem_of_getElem? (i := 3) rfl)) (ty := .long) (by decide) rfl rfl (g := (mkF m 56 #[.val (.ref a1), .val (.long (0 : Int64)), .second, .val (.int p3), .val (.long q4), .second, .unset, .unset] [(.long q4), (.ref a1)])) rfl rfl (hb hby d1_56)
  have fw11 : Fld Z h11 a1 "com/example/tillwire/tillwire/HttpFraming$BodyReader" "skip" "J" (.long q4) := (f10_1).same W11
  have f11_0 : Exa Z h11 a1 "com/example/tillwire/tillwire/HttpFraming$BodyReader" := (f10_0).wr W11
  have f11_1 : Fld Z h11 a1 "com/example/tillwire/tillwire/HttpFraming$BodyReader" "part" "Lcom/example/tillwire/tillwire/HttpFraming$BodyReader$Part;" .null := (f10_2).other W11 (Or.inr (slot_ne (Or.inl (hw _ (List.mem_of_getElem? (i := 77) rfl))) (Or.inr (hw _ (List.mem_of_getElem? (i := 71) rfl))) (by decide) (t := (.object "com/example/tillwire/tillwire/HttpFraming$BodyReader$Part")) (t' := .long) (by decide) (by decide)))
  have f11_2 : Fld Z h11 a1 "com/example/tillwire/tillwire/HttpFraming$BodyReader" "passed" "J" (.long (0 : Int64)) := (f10_3).other W11 (Or.inr (slot_ne (Or.inl (hw _ (List.mem_of_getElem? (i := 123) rfl))) (Or.inr (hw _ (List.mem_of_getElem? (i := 71) rfl))) (by decide) (t := .long) (t' := .long) (by decide) (by decide)))
  have f11_3 : Fld Z h11 a1 "com/example/tillwire/tillwire/HttpFraming$BodyReader" "left" "J" (.long (0 : Int64)) := (f10_4).other W11 (Or.inr (slot_ne (Or.inl (hw _ (List.mem_of_getElem? (i := 127) rfl))) (Or.inr (hw _ (List.mem_of_getElem? (i := 71) rfl))) (by decide) (t := .long) (t' := .long) (by decide) (by decide)))
  have f11_4 : Fld Z h11 a1 "com/example/tillwire/tillwire/HttpFraming$BodyReader" "skipped" "J" (.long (0 : Int64)) := (f10_5).other W11 (Or.inr (slot_ne (Or.inl (hw _ (List.mem_of_getElem? (i := 133) rfl))) (Or.inr (hw _ (List.mem_of_getElem? (i := 71) rfl))) (by decide) (t := .long) (t' := .long) (by decide) (by decide)))
  have f11_5 : Exa Z h11 b2 "java/io/ByteArrayOutputStream" := (f10_6).wr W11
  have f11_6 : Unt h11 b2 := Unt.wr W11 f10_7
  have f11_7 : Fld Z h11 b2 "java/io/ByteArrayOutputStream" "buf" "[B" (.ref b3_b1_b2) := (f10_8).other W11 (Or.inl (ne_exa f10_6 f10_0 (by decide)))
  have f11_8 : Fld Z h11 b2 "java/io/ByteArrayOutputStream" "count" "I" (.int (0 : Int32)) := (f10_9).other W11 (Or.inl (ne_exa f10_6 f10_0 (by decide)))
  have f11_9 : Exa Z h11 b3_b1_b2 "[B" := (f10_10).wr W11
  have f11_10 : Arv Z h11 b3_b1_b2 k3_k1_k2 .byte (32 : Int32) [] (.int (0 : Int32)) := (f10_11).other W11 (ne_exa f10_10 f10_0 (by decide))
  have f11_11 : Fld Z h11 a1 "com/example/tillwire/tillwire/HttpFraming$BodyReader" "kept" "Ljava/io/ByteArrayOutputStream;" (.ref b2) := (f10_12).other W11 (Or.inr (slot_ne (Or.inr (hw _ (List.mem_of_getElem? (i := 32) rfl))) (Or.inr (hw _ (List.mem_of_getElem? (i := 71) rfl))) (by decide) (t := (.object "java/io/ByteArrayOutputStream")) (t' := .long) (by decide) (by decide)))
  have f11_12 : Exa Z h11 b5 "com/example/tillwire/tillwire/HttpFraming$Line" := (f10_13).wr W11
  have f11_13 : Fld Z h11 a1 "com/example/tillwire/tillwire/HttpFraming$BodyReader" "line" "Lcom/example/tillwire/tillwire/HttpFraming$Line;" (.ref b5) := (f10_14).other W11 (Or.inr (slot_ne (Or.inr (hw _ (List.mem_of_getElem? (i := 62) rfl))) (Or.inr (hw _ (List.mem_of_getElem? (i := 71) rfl))) (by decide) (t := (.object "com/example/tillwire/tillwire/HttpFraming$Line")) (t' := .long) (by decide) (by decide)))
  have f11_14 : Fld Z h11 a1 "com/example/tillwire/tillwire/HttpFraming$BodyReader" "whole" "Z" (.int (1 : Int32)) := (f10_15).other W11 (Or.inr (slot_ne (Or.inl (hw _ (List.mem_of_getElem? (i := 64) rfl))) (Or.inr (hw _ (List.mem_of_getElem? (i := 71) rfl))) (by decide) (t := .boolean) (t' := .long) (by decide) (by decide)))
  have f11_15 : Fld Z h11 a1 "com/example/tillwire/tillwire/HttpFraming$BodyReader" "chunked" "Z" (.int (0 : Int32)) := (f10_16).other W11 (Or.inr (slot_ne (Or.inr (hw _ (List.mem_of_getElem? (i := 67) rfl))) (Or.inr (hw _ (List.mem_of_getElem? (i := 71) rfl))) (by decide) (t := .boolean) (t' := .long) (by decide) (by decide)))
  have f11_16 : Fld Z h11 a1 "com/example/tillwire/tillwire/HttpFraming$BodyReader" "keep" "I" (.int p3) := (fw10).other W11 (Or.inr (slot_ne (Or.inr (hw _ (List.mem_of_getElem? (i := 69) rfl))) (Or.inr (hw _ (List.mem_of_getElem? (i := 71) rfl))) (by decide) (t := .int) (t' := .long) (by decide) (by decide)))
  have O11 := O10.wr W11 g_a1
  have N11 := Fr.snoc X11 N10 g_a1
  have K11 : Keep h0 h11 [a1] := K10.wr W11 (Or.inl (List.mem_of_getElem? (i := 0) rfl))
  obtain ⟨T12, X12, e12, st12⟩ := getF X11 hx hZ hown (host := "") (Or.inl (hw _ (List.mem_of_getElem? (i := 66) rfl))) Via.refl e11 f11_15 (g := (mkF m 60 #[.val (.ref a1), .val (.long (0 : Int64)), .second, .val (.int p3), .val (.long q4), .second, .unset, .unset] [(.ref a1)])) rfl rfl (hb hby d1_60)
  obtain ⟨_, _, ⟨T13, L13, k13, n13⟩, -, X13, ⟨Lc13, hQ13, l13, y13, z13⟩, st13⟩ := Jvm.LawKit.callS X12 hx (y := (⟨"java/lang/Math", "min", "(JJ)J"⟩ : MethodName)) hown (mvT hZ (hw _ (List.mem_of_getElem? (i := 119) rfl))) (mvT hZ (hw _ (List.mem_of_getElem? (i := 120) rfl))) (mvT hZ (hw _ (List.mem_of_getElem? (i := 113) rfl))) (mvT hZ (hw _ (List.mem_of_getElem? (i := 121) rfl))) (by decide) (backOf (W := 0) (rm_min1 l Z a0 hw [] W (p3.toInt64) h11 n0 O11 xm) hZ (hw _ (List.mem_of_getElem? (i := 121) rfl)) (hw _ (List.mem_of_getElem? (i := 113) rfl)) (by decide) (by decide)) (g := (mkF m 100 #[.val (.ref a1), .val (.long (0 : Int64)), .second, .val (.int p3), .val (.long q4), .second, .unset, .unset] [(.long (p3.toInt64)), (.long (0 : Int64))])) rfl (by rw [hml]; rfl) (argsL := [(.long (0 : Int64)), (.long (p3.toInt64))]) (rest := []) (lenOf pd_2 rfl) rfl (by show 2 * 0 + _ ≤ _; exact Nat.le_of_eq rfl) (hb hby d1_100) (fun _ _ => ⟨rfl, e12, (by decide : 5 + 0 ≤ _), (by decide : 56 + 0 ≤ _)⟩)
  dsimp only [Pt.U, Pt.locs, Pt.cells, Pt.slots] at X13 l13 y13 z13 st13 hQ13
  subst l13 y13 z13
  obtain ⟨rfl, N13q, e13⟩ := hQ13
  have N13 := Fr.app N11 N13q
  obtain ⟨T14, h14, X14, e14, W14, st14⟩ := putF X13 hx hZ hown (host := "") (Or.inl (hw _ (List.mem_of_getElem? (i := 122) rfl))) Via.refl e13 f11_2 f11_0 (Or.inl (hw _ (List.mem_of_getElem? (i := 123) rfl))) (hw _ (List.mem_of_getElem? (i := 3) rfl)) (ty := .long) (by decide) rfl rfl (g := (mkF m 110 #[.val (.ref a1), .val (.long (0 : Int64)), .second, .val (.int p3), .val (.long q4), .second, .val (.long (0 : Int64)), .second] [(.long (0 : Int64)), (.ref a1)])) rfl rfl (hb hby d1_110)
  have fw14 : Fld Z h14 a1 "com/example/tillwire/tillwire/HttpFraming$BodyReader" "passed" "J" (.long (0 : Int64)) := (f11_2).same W14
  have f14_0 : Exa Z h14 a1 "com/example/tillwire/tillwire/HttpFraming$BodyReader" := (f11_0).wr W14
  have f14_1 : Fld Z h14 a1 "com/example/tillwire/tillwire/HttpFraming$BodyReader" "part" "Lcom/example/tillwire/tillwire/HttpFraming$BodyReader$Part;" .null := (f11_1).other W14 (Or.inr (slot_ne (Or.inl (hw _ (List.mem_of_getElem? (i := 77) rfl))) (Or.inl (hw _ (List.mem_of_getElem? (i := 123) rfl))) (by decide) (t := (.object "com/example/tillwire/tillwire/HttpFraming$BodyReader$Part")) (t' := .long) (by decide) (by decide)))
  have f14_2 : Fld Z h14 a1 "com/example/tillwire/tillwire/HttpFraming$BodyReader" "left" "J" (.long (0 : Int64)) := (f11_3).other W14 (Or.inr (slot_ne (Or.inl (hw _ (List.mem_of_getElem? (i := 127) rfl))) (Or.inl (hw _ (List.mem_of_getElem? (i := 123) rfl))) (by decide) (t := .long) (t' := .long) (by decide) (by decide)))
  have f14_3 : Fld Z h14 a1 "com/example/tillwire/tillwire/HttpFraming$BodyReader" "skipped" "J" (.long (0 : Int64)) := (f11_4).other W14 (Or.inr (slot_ne (Or.inl (hw _ (List.mem_of_getElem? (i := 133) rfl))) (Or.inl (hw _ (List.mem_of_getElem? (i := 123) rfl))) (by decide) (t := .long) (t' := .long) (by decide) (by decide)))
  have f14_4 : Exa Z h14 b2 "java/io/ByteArrayOutputStream" := (f11_5).wr W14
  have f14_5 : Unt h14 b2 := Unt.wr W14 f11_6
  have f14_6 : Fld Z h14 b2 "java/io/ByteArrayOutputStream" "buf" "[B" (.ref b3_b1_b2) := (f11_7).other W14 (Or.inl (ne_exa f11_5 f11_0 (by decide)))
  have f14_7 : Fld Z h14 b2 "java/io/ByteArrayOutputStream" "count" "I" (.int (0 : Int32)) := (f11_8).other W14 (Or.inl (ne_exa f11_5 f11_0 (by decide)))
  have f14_8 : Exa Z h14 b3_b1_b2 "[B" := (f11_9).wr W14
  have f14_9 : Arv Z h14 b3_b1_b2 k3_k1_k2 .byte (32 : Int32) [] (.int (0 : Int32)) := (f11_10).other W14 (ne_exa f11_9 f11_0 (by decide))
  have f14_10 : Fld Z h14 a1 "com/example/tillwire/tillwire/HttpFraming$BodyReader" "kept" "Ljava/io/ByteArrayOutputStream;" (.ref b2) := (f11_11).other W14 (Or.inr (slot_ne (Or.inr (hw _ (List.mem_of_getElem? (i := 32) rfl))) (Or.inl (hw _ (List.mem_of_getElem? (i := 123) rfl))) (by decide) (t := (.object "java/io/ByteArrayOutputStream")) (t' := .long) (by decide) (by decide)))
  have f14_11 : Exa Z h14 b5 "com/example/tillwire/tillwire/HttpFraming$Line" := (f11_12).wr W14
  have f14_12 : Fld Z h14 a1 "com/example/tillwire/tillwire/HttpFraming$BodyReader" "line" "Lcom/example/tillwire/tillwire/HttpFraming$Line;" (.ref b5) := (f11_13).other W14 (Or.inr (slot_ne (Or.inr (hw _ (List.mem_of_getElem? (i := 62) rfl))) (Or.inl (hw _ (List.mem_of_getElem? (i := 123) rfl))) (by decide) (t := (.object "com/example/tillwire/tillwire/HttpFraming$Line")) (t' := .long) (by decide) (by decide)))
  have f14_13 : Fld Z h14 a1 "com/example/tillwire/tillwire/HttpFraming$BodyReader" "whole" "Z" (.int (1 : Int32)) := (f11_14).other W14 (Or.inr (slot_ne (Or.inl (hw _ (List.mem_of_getElem? (i := 64) rfl))) (Or.inl (hw _ (List.mem_of_getElem? (i := 123) rfl))) (by decide) (t := .boolean) (t' := .long) (by decide) (by decide)))
  have f14_14 : Fld Z h14 a1 "com/example/tillwire/tillwire/HttpFraming$BodyReader" "chunked" "Z" (.int (0 : Int32)) := (f11_15).other W14 (Or.inr (slot_ne (Or.inr (hw _ (List.mem_of_getElem? (i := 67) rfl))) (Or.inl (hw _ (List.mem_of_getElem? (i := 123) rfl))) (by decide) (t := .boolean) (t' := .long) (by decide) (by decide)))
  have f14_15 : Fld Z h14 a1 "com/example/tillwire/tillwire/HttpFraming$BodyReader" "keep" "I" (.int p3) := (f11_16).other W14 (Or.inr (slot_ne (Or.inr (hw _ (List.mem_of_getElem? (i := 69) rfl))) (Or.inl (hw _ (List.mem_of_getElem? (i := 123) rfl))) (by decide) (t := .int) (t' := .long) (by decide) (by decide)))
  have f14_16 : Fld Z h14 a1 "com/example/tillwire/tillwire/HttpFraming$BodyReader" "skip" "J" (.long q4) := (fw11).other W14 (Or.inr (slot_ne (Or.inr (hw _ (List.mem_of_getElem? (i := 71) rfl))) (Or.inl (hw _ (List.mem_of_getElem? (i := 123) rfl))) (by decide) (t := .long) (t' := .long) (by decide) (by decide)))
  have O14 := O11.wr W14 g_a1
  have N14 := Fr.snoc X14 N13 g_a1
  have K14 : Keep h0 h14 [a1] := K11.wr W14 (Or.inl (List.mem_of_getElem? (i := 0) rfl))
  obtain ⟨T15, X15, e15, st15⟩ := getS2 X14 hx hZ hown (host := "") (Or.inl (hw _ (List.mem_of_getElem? (i := 124) rfl))) Via.refl e14 (S_n4.ext O14.2) (g := (mkF m 114 #[.val (.ref a1), .val (.long (0 : Int64)), .second, .val (.int p3), .val (.long q4), .second, .val (.long (0 : Int64)), .second] [(.ref a1)])) rfl (hb hby d1_114)
  obtain ⟨T16, h16, X16, e16, W16, st16⟩ := putF X15 hx hZ hown (host := "") (Or.inl (hw _ (List.mem_of_getElem? (i := 76) rfl))) Via.refl e15 f14_1 f14_0 (Or.inl (hw _ (List.mem_of_getElem? (i := 77) rfl))) (hw _ (List.mem_of_getElem? (i := 3) rfl)) (ty := (.object "com/example/tillwire/tillwire/HttpFraming$BodyReader$Part")) (by decide) rfl rfl (g := (mkF m 117 #[.val (.ref a1), .val (.long (0 : Int64)), .second, .val (.int p3), .val (.long q4), .second, .val (.long (0 : Int64)), .second] [(.ref w_n4), (.ref a1)])) rfl rfl (hb hby d1_117)
  have fw16 : Fld Z h16 a1 "com/example/tillwire/tillwire/HttpFraming$BodyReader" "part" "Lcom/example/tillwire/tillwire/HttpFraming$BodyReader$Part;" (.ref w_n4) := (f14_1).same W16
  have f16_0 : Exa Z h16 a1 "com/example/tillwire/tillwire/HttpFraming$BodyReader" := (f14_0).wr W16
  have f16_1 : Fld Z h16 a1 "com/example/tillwire/tillwire/HttpFraming$BodyReader" "left" "J" (.long (0 : Int64)) := (f14_2).other W16 (Or.inr (slot_ne (Or.inl (hw _ (List.mem_of_getElem? (i := 127) rfl))) (Or.inl (hw _ (List.mem_of_getElem? (i := 77) rfl))) (by decide) (t := .long) (t' := (.object "com/example/tillwire/tillwire/HttpFraming$BodyReader$Part")) (by decide) (by decide)))
  have f16_2 : Fld Z h16 a1 "com/example/tillwire/tillwire/HttpFraming$BodyReader" "skipped" "J" (.long (0 : Int64)) := (f14_3).other W16 (Or.inr (slot_ne (Or.inl (hw _ (List.mem_of_getElem? (i := 133) rfl))) (Or.inl (hw _ (List.mem_of_getElem? (i := 77) rfl))) (by decide) (t := .long) (t' := (.object "com/example/tillwire/tillwire/HttpFraming$BodyReader$Part")) (by decide) (by decide)))
  have f16_3 : Exa Z h16 b2 "java/io/ByteArrayOutputStream" := (f14_4).wr W16
  have f16_4 : Unt h16 b2 := Unt.wr W16 f14_5
  have f16_5 : Fld Z h16 b2 "java/io/ByteArrayOutputStream" "buf" "[B" (.ref b3_b1_b2) := (f14_6).other W16 (Or.inl (ne_exa f14_4 f14_0 (by decide)))
  have f16_6 : Fld Z h16 b2 "java/io/ByteArrayOutputStream" "count" "I" (.int (0 : Int32)) := (f14_7).other W16 (Or.inl (ne_exa f14_4 f14_0 (by decide)))
  have f16_7 : Exa Z h16 b3_b1_b2 "[B" := (f14_8).wr W16
  have f16_8 : Arv Z h16 b3_b1_b2 k3_k1_k2 .byte (32 : Int32) [] (.int (0 : Int32)) := (f14_9).other W16 (ne_exa f14_8 f14_0 (by decide))
  have f16_9 : Fld Z h16 a1 "com/example/tillwire/tillwire/HttpFraming$BodyReader" "kept" "Ljava/io/ByteArrayOutputStream;" (.ref b2) := (f14_10).other W16 (Or.inr (slot_ne (Or.inr (hw _ (List.mem_of_getElem? (i := 32) rfl))) (Or.inl (hw _ (List.mem_of_getElem? (i := 77) rfl))) (by decide) (t := (.object "java/io/ByteArrayOutputStream")) (t' := (.object "com/example/tillwire/tillwire/HttpFraming$BodyReader$Part")) (by decide) (by decide)))
  have f16_10 : Exa Z h16 b5 "com/example/tillwire/tillwire/HttpFraming$Line" := (f14_11).wr W16
  have f16_11 : Fld Z h16 a1 "com/example/tillwire/tillwire/HttpFraming$BodyReader" "line" "Lcom/example/tillwire/tillwire/HttpFraming$Line;" (.ref b5) := (f14_12).other W16 (Or.inr (slot_ne (Or.inr (hw _ (List.mem_of_getElem? (i := 62) rfl))) (Or.inl (hw _ (List.mem_of_getElem? (i := 77) rfl))) (by decide) (t := (.object "com/example/tillwire/tillwire/HttpFraming$Line")) (t' := (.object "com/example/tillwire/tillwire/HttpFraming$BodyReader$Part")) (by decide) (by decide)))
  have f16_12 : Fld Z h16 a1 "com/example/tillwire/tillwire/HttpFraming$BodyReader" "whole" "Z" (.int (1 : Int32)) := (f14_13).other W16 (Or.inr (slot_ne (Or.inl (hw _ (List.mem_of_getElem? (i := 64) rfl))) (Or.inl (hw _ (List.mem_of_getElem? (i := 77) rfl))) (by decide) (t := .boolean) (t' := (.object "com/example/tillwire/tillwire/HttpFraming$BodyReader$Part")) (by decide) (by decide)))
  have f16_13 : Fld Z h16 a1 "com/example/tillwire/tillwire/HttpFraming$BodyReader" "chunked" "Z" (.int (0 : Int32)) := (f14_14).other W16 (Or.inr (slot_ne (Or.inr (hw _ (List.mem_of_getElem? (i := 67) rfl))) (Or.inl (hw _ (List.mem_of_getElem? (i := 77) rfl))) (by decide) (t := .boolean) (t' := (.object "com/example/tillwire/tillwire/HttpFraming$BodyReader$Part")) (by decide) (by decide)))
  have f16_14 : Fld Z h16 a1 "com/example/tillwire/tillwire/HttpFraming$BodyReader" "keep" "I" (.int p3) := (f14_15).other W16 (Or.inr (slot_ne (Or.inr (hw _ (List.mem_of_getElem? (i := 69) rfl))) (Or.inl (hw _ (List.mem_of_getElem? (i := 77) rfl))) (by decide) (t := .int) (t' := (.object "com/example/tillwire/tillwire/HttpFraming$BodyReader$Part")) (by decide) (by decide)))
  have f16_15 : Fld Z h16 a1 "com/example/tillwire/tillwire/HttpFraming$BodyReader" "skip" "J" (.long q4) := (f14_16).other W16 (Or.inr (slot_ne (Or.inr (hw _ (List.mem_of_getElem? (i := 71) rfl))) (Or.inl (hw _ (List.mem_of_getElem? (i := 77) rfl))) (by decide) (t := .long) (t' := (.object "com/example/tillwire/tillwire/HttpFraming$BodyReader$Part")) (by decide) (by decide)))
  have f16_16 : Fld Z h16 a1 "com/example/tillwire/tillwire/HttpFraming$BodyReader" "passed" "J" (.long (0 : Int64)) := (fw14).other W16 (Or.inr (slot_ne (Or.inl (hw _ (List.mem_of_getElem? (i := 123) rfl))) (Or.inl (hw _ (List.mem_of_getElem? (i := 77) rfl))) (by decide) (t := .long) (t' := (.object "com/example/tillwire/tillwire/HttpFraming$BodyReader$Part")) (by decide) (by decide)))
  have O16 := O14.wr W16 g_a1
  have N16 := Fr.snoc X16 N14 g_a1
  have K16 : Keep h0 h16 [a1] := K14.wr W16 (Or.inl (List.mem_of_getElem? (i := 0) rfl))
  obtain ⟨T17, h17, X17, e17, W17, st17⟩ := putF X16 hx hZ hown (host := "") (Or.inl (hw _ (List.mem_of_getElem? (i := 126) rfl))) Via.refl e16 f16_1 f16_0 (Or.inl (hw _ (List.mem_of_getElem? (i := 127) rfl))) (hw _ (List.mem_of_getElem? (i := 3) rfl)) (ty := .long) (by decide) rfl rfl (g := (mkF m 123 #[.val (.ref a1), .val (.long (0 : Int64)), .second, .val (.int p3), .val (.long q4), .second, .val (.long (0 : Int64)), .second] [(.long (0 : Int64)), (.ref a1)])) rfl rfl (hb hby d1_123)
  have fw17 : Fld Z h17 a1 "com/example/tillwire/tillwire/HttpFraming$BodyReader" "left" "J" (.long (0 : Int64)) := (f16_1).same W17
  have f17_0 : Exa Z h17 a1 "com/example/tillwire/tillwire/HttpFraming$BodyReader" := (f16_0).wr W17
  have f17_1 : Fld Z h17 a1 "com/example/tillwire/tillwire/HttpFraming$BodyReader" "skipped" "J" (.long (0 : Int64)) := (f16_2).other W17 (Or.inr (slot_ne (Or.inl (hw _ (List.mem_of_getElem? (i := 133) rfl))) (Or.inl (hw _ (List.mem_of_getElem? (i := 127) rfl))) (by decide) (t := .long) (t' := .long) (by decide) (by decide)))
  have f17_2 : Exa Z h17 b2 "java/io/ByteArrayOutputStream" := (f16_3).wr W17
  have f17_3 : Unt h17 b2 := Unt.wr W17 f16_4
  have f17_4 : Fld Z h17 b2 "java/io/ByteArrayOutputStream" "buf" "[B" (.ref b3_b1_b2) := (f16_5).other W17 (Or.inl (ne_exa f16_3 f16_0 (by decide)))
  have f17_5 : Fld Z h17 b2 "java/io/ByteArrayOutputStream" "count" "I" (.int (0 : Int32)) := (f16_6).other W17 (Or.inl (ne_exa f16_3 f16_0 (by decide)))
  have f17_6 : Exa Z h17 b3_b1_b2 "[B" := (f16_7).wr W17
  have f17_7 : Arv Z h17 b3_b1_b2 k3_k1_k2 .byte (32 : Int32) [] (.int (0 : Int32)) := (f16_8).other W17 (ne_exa f16_7 f16_0 (by decide))
  have f17_8 : Fld Z h17 a1 "com/example/tillwire/tillwire/HttpFraming$BodyReader" "kept" "Ljava/io/ByteArrayOutputStream;" (.ref b2) := (f16_9).other W17 (Or.inr (slot_ne (Or.inr (hw _ (List.mem_of_getElem? (i := 32) rfl))) (Or.inl (hw _ (List.mem_of_getElem? (i := 127) rfl))) (by decide) (t := (.object "java/io/ByteArrayOutputStream")) (t' := .long) (by decide) (by decide)))
  have f17_9 : Exa Z h17 b5 "com/example/tillwire/tillwire/HttpFraming$Line" := (f16_10).wr W17
  have f17_10 : Fld Z h17 a1 "com/example/tillwire/tillwire/HttpFraming$BodyReader" "line" "Lcom/example/tillwire/tillwire/HttpFraming$Line;" (.ref b5) := (f16_11).other W17 (Or.inr (slot_ne (Or.inr (hw _ (List.mem_of_getElem? (i := 62) rfl))) (Or.inl (hw _ (List.mem_of_getElem? (i := 127) rfl))) (by decide) (t := (.object "com/example/tillwire/tillwire/HttpFraming$Line")) (t' := .long) (by decide) (by decide)))
  have f17_11 : Fld Z h17 a1 "com/example/tillwire/tillwire/HttpFraming$BodyReader" "whole" "Z" (.int (1 : Int32)) := (f16_12).other W17 (Or.inr (slot_ne (Or.inl (hw _ (List.mem_of_getElem? (i := 64) rfl))) (Or.inl (hw _ (List.mem_of_getElem? (i := 127) rfl))) (by decide) (t := .boolean) (t' := .long) (by decide) (by decide)))
  have f17_12 : Fld Z h17 a1 "com/example/tillwire/tillwire/HttpFraming$BodyReader" "chunked" "Z" (.int (0 : Int32)) := (f16_13).other W17 (Or.inr (slot_ne (Or.inr (hw _ (List.mem_of_getElem? (i := 67) rfl))) (Or.inl (hw _ (List.mem_of_getElem? (i := 127) rfl))) (by decide) (t := .boolean) (t' := .long) (by decide) (by decide)))
  have f17_13 : Fld Z h17 a1 "com/example/tillwire/tillwire/HttpFraming$BodyReader" "keep" "I" (.int p3) := (f16_14).other W17 (Or.inr (slot_ne (Or.inr (hw _ (List.mem_of_getElem? (i := 69) rfl))) (Or.inl (hw _ (List.mem_of_getElem? (i := 127) rfl))) (by decide) (t := .int) (t' := .long) (by decide) (by decide)))
  have f17_14 : Fld Z h17 a1 "com/example/tillwire/tillwire/HttpFraming$BodyReader" "skip" "J" (.long q4) := (f16_15).other W17 (Or.inr (slot_ne (Or.inr (hw _ (List.mem_of_getElem? (i := 71) rfl))) (Or.inl (hw _ (List.mem_of_getElem? (i := 127) rfl))) (by decide) (t := .long) (t' := .long) (by decide) (by decide)))
  have f17_15 : Fld Z h17 a1 "com/example/tillwire/tillwire/HttpFraming$BodyReader" "passed" "J" (.long (0 : Int64)) := (f16_16).other W17 (Or.inr (slot_ne (Or.inl (hw _ (List.mem_of_getElem? (i := 123) rfl))) (Or.inl (hw _ (List.mem_of_getElem? (i := 127) rfl))) (by decide) (t := .long) (t' := .long) (by decide) (by decide)))
  have f17_16 : Fld Z h17 a1 "com/example/tillwire/tillwire/HttpFraming$BodyReader" "part" "Lcom/example/tillwire/tillwire/HttpFraming$BodyReader$Part;" (.ref w_n4) := (fw16).other W17 (Or.inr (slot_ne (Or.inl (hw _ (List.mem_of_getElem? (i := 77) rfl))) (Or.inl (hw _ (List.mem_of_getElem? (i := 127) rfl))) (by decide) (t := (.object "com/example/tillwire/tillwire/HttpFraming$BodyReader$Part")) (t' := .long) (by decide) (by decide)))
  have O17 := O16.wr W17 g_a1
  have N17 := Fr.snoc X17 N16 g_a1
  have K17 : Keep h0 h17 [a1] := K16.wr W17 (Or.inl (List.mem_of_getElem? (i := 0) rfl))
  obtain ⟨cq18, q18, q18'⟩ := (f17_0).cell
  obtain ⟨_, _, ⟨T18, L18, k18, n18⟩, -, X18, ⟨Lc18, hQ18, l18, y18, z18⟩, st18⟩ := X17.privateBack hx (y := (⟨"com/example/tillwire/tillwire/HttpFraming$BodyReader", "endKept", "()V"⟩ : MethodName)) hown (mvT hZ (hw _ (List.mem_of_getElem? (i := 128) rfl))) (mvT hZ (hw _ (List.mem_of_getElem? (i := 129) rfl))) (own_selP hZ (hw _ (List.mem_of_getElem? (i := 81) rfl)) rfl (hw _ (List.mem_of_getElem? (i := 130) rfl)) (hw _ (List.mem_of_getElem? (i := 129) rfl)) (by decide)) (Cond.privateMethod_at (mvP hZ (hw _ (List.mem_of_getElem? (i := 130) rfl)) (args := #[]))) (mvT hZ (hw _ (List.mem_of_getElem? (i := 131) rfl))) (by decide) (backOf (W := 0) (rm_ek0 l Z a0 hw [] W a1 b2 q4 h17 n0 O17 xk g_a1 f17_0 f17_8 f17_11 f17_12 f17_16 fw17 f17_1 f17_15 f17_14) hZ (hw _ (List.mem_of_getElem? (i := 131) rfl)) (hw _ (List.mem_of_getElem? (i := 4) rfl)) (by decide) (by decide)) (g := (mkF m 127 #[.val (.ref a1), .val (.long (0 : Int64)), .second, .val (.int p3), .val (.long q4), .second, .val (.long (0 : Int64)), .second] [(.ref a1)])) rfl (by rw [hml]; rfl) (Steps.refl _) (a := a1) (by rw [e17]; exact q18) q18' (argsL := []) (rest := []) (lenOf pd_0 rfl) rfl (by show 2 * 0 + _ ≤ _; exact Nat.le_of_eq rfl) (hb hby d1_127) (fun _ _ => ⟨rfl, e17, (by decide : 5 + 0 ≤ _), (by decide : 56 + 0 ≤ _)⟩)
  dsimp only [Pt.U, Pt.locs, Pt.cells, Pt.slots] at X18 l18 y18 z18 st18 hQ18
  subst l18 y18 z18
  obtain ⟨N18q, hP18⟩ := hQ18
  have N18 := Fr.app N17 N18q
  obtain ⟨rfl, Kp18, fp18_0, fp18_1, fp18_2, fp18_3, fp18_4⟩ := hP18
  have f18_0 : Exa Z T18.heap a1 "com/example/tillwire/tillwire/HttpFraming$BodyReader" := (f17_0).keep Kp18
  have f18_1 : Exa Z T18.heap b2 "java/io/ByteArrayOutputStream" := (f17_2).keep Kp18
  have f18_2 : Unt T18.heap b2 := own_untk f17_3 Kp18 (ninS (ne_exa f17_2 f17_0 (by decide)) nin0)
  have f18_3 : Fld Z T18.heap b2 "java/io/ByteArrayOutputStream" "buf" "[B" (.ref b3_b1_b2) := (f17_4).keep Kp18 (ninS (ne_exa f17_2 f17_0 (by decide)) nin0)
  have f18_4 : Fld Z T18.heap b2 "java/io/ByteArrayOutputStream" "count" "I" (.int (0 : Int32)) := (f17_5).keep Kp18 (ninS (ne_exa f17_2 f17_0 (by decide)) nin0)
  have f18_5 : Exa Z T18.heap b3_b1_b2 "[B" := (f17_6).keep Kp18
  have f18_6 : Arv Z T18.heap b3_b1_b2 k3_k1_k2 .byte (32 : Int32) [] (.int (0 : Int32)) := (f17_7).keep Kp18 (ninS (ne_exa f17_6 f17_0 (by decide)) nin0)
  have f18_7 : Exa Z T18.heap b5 "com/example/tillwire/tillwire/HttpFraming$Line" := (f17_9).keep Kp18
  have O18 := O17.keep Kp18 (allS g_a1 all0)
  have K18 : Keep h0 T18.heap [a1] := K17.trans Kp18 (allS (Or.inl (List.mem_of_getElem? (i := 0) rfl)) all0)
  obtain ⟨fs, hr, hrun, hended, hW, hsame⟩ := X18.leave (v := none) (fun _ => rfl)
  refine ⟨_, _, pre0 _ ?_, hrun, hended, _, _, rfl, ?_, ⟨_, rfl⟩, hW, hsame.mono (by decide) (by decide)⟩
  · show Steps p.tables e below (s₁.setTop (mkF m 0 #[.val (.ref a1), .val (.long (0 : Int64)), .second, .val (.int p3), .val (.long q4), .second, .unset, .unset] [])) _
    refine XS.aloadN X0.here hx rfl (hb hby d1_0) rfl rfl ?_
    show Steps p.tables e below (s₁.setTop (mkF m 1 #[.val (.ref a1), .val (.long (0 : Int64)), .second, .val (.int p3), .val (.long q4), .second, .unset, .unset] [(.ref a1)])) _
    refine st1 _ ?_
    show Steps p.tables e below (T1.setTop (mkF m 4 #[.val (.ref a1), .val (.long (0 : Int64)), .second, .val (.int p3), .val (.long q4), .second, .unset, .unset] [])) _
    refine XS.aloadN X1.here hx rfl (hb hby d1_4) rfl rfl ?_
    show Steps p.tables e below (T1.setTop (mkF m 5 #[.val (.ref a1), .val (.long (0 : Int64)), .second, .val (.int p3), .val (.long q4), .second, .unset, .unset] [(.ref a1)])) _
    refine st2 _ ?_
    show Steps p.tables e below (T2.setTop (mkF m 8 #[.val (.ref a1), .val (.long (0 : Int64)), .second, .val (.int p3), .val (.long q4), .second, .unset, .unset] [(.ref b2), (.ref a1)])) _
    refine XS.dup X2.here hx rfl (hb hby d1_8) rfl rfl ?_
    show Steps p.tables e below (T2.setTop (mkF m 9 #[.val (.ref a1), .val (.long (0 : Int64)), .second, .val (.int p3), .val (.long q4), .second, .unset, .unset] [(.ref b2), (.ref b2), (.ref a1)])) _
    refine st3.trans ?_
    show Steps p.tables e below (T3.setTop (mkF m 12 #[.val (.ref a1), .val (.long (0 : Int64)), .second, .val (.int p3), .val (.long q4), .second, .unset, .unset] [(.ref b2), (.ref a1)])) _
    refine st4 _ ?_
    show Steps p.tables e below (T4.setTop (mkF m 15 #[.val (.ref a1), .val (.long (0 : Int64)), .second, .val (.int p3), .val (.long q4), .second, .unset, .unset] [])) _
    refine XS.aloadN X4.here hx rfl (hb hby d1_15) rfl rfl ?_
    show Steps p.tables e below (T4.setTop (mkF m 16 #[.val (.ref a1), .val (.long (0 : Int64)), .second, .val (.int p3), .val (.long q4), .second, .unset, .unset] [(.ref a1)])) _
    refine st5 _ ?_
    show Steps p.tables e below (T5.setTop (mkF m 19 #[.val (.ref a1), .val (.long (0 : Int64)), .second, .val (.int p3), .val (.long q4), .second, .unset, .unset] [(.ref b5), (.ref a1)])) _
    refine XS.dup X5.here hx rfl (hb hby d1_19) rfl rfl ?_
    show Steps p.tables e below (T5.setTop (mkF m 20 #[.val (.ref a1), .val (.long (0 : Int64)), .second, .val (.int p3), .val (.long q4), .second, .unset, .unset] [(.ref b5), (.ref b5), (.ref a1)])) _
    refine st6.trans ?_
    show Steps p.tables e below (T6.setTop (mkF m 23 #[.val (.ref a1), .val (.long (0 : Int64)), .second, .val (.int p3), .val (.long q4), .second, .unset, .unset] [(.ref b5), (.ref a1)])) _
    refine st7 _ ?_
    show Steps p.tables e below (T7.setTop (mkF m 26 #[.val (.ref a1), .val (.long (0 : Int64)), .second, .val (.int p3), .val (.long q4), .second, .unset, .unset] [])) _
    refine XS.aloadN X7.here hx rfl (hb hby d1_26) rfl rfl ?_
    show Steps p.tables e below (T7.setTop (mkF m 27 #[.val (.ref a1), .val (.long (0 : Int64)), .second, .val (.int p3), .val (.long q4), .second, .unset, .unset] [(.ref a1)])) _
    refine XS.iconst X7.here hx rfl (hb hby d1_27) ?_
    show Steps p.tables e below (T7.setTop (mkF m 28 #[.val (.ref a1), .val (.long (0 : Int64)), .second, .val (.int p3), .val (.long q4), .second, .unset, .unset] [(.int (1 : Int32)), (.ref a1)])) _
    refine st8 _ ?_
    show Steps p.tables e below (T8.setTop (mkF m 31 #[.val (.ref a1), .val (.long (0 : Int64)), .second, .val (.int p3), .val (.long q4), .second, .unset, .unset] [])) _
    refine XS.aloadN X8.here hx rfl (hb hby d1_31) rfl rfl ?_
    show Steps p.tables e below (T8.setTop (mkF m 32 #[.val (.ref a1), .val (.long (0 : Int64)), .second, .val (.int p3), .val (.long q4), .second, .unset, .unset] [(.ref a1)])) _
    refine XS.lloadN X8.here hx rfl (hb hby d1_32) rfl ?_
    show Steps p.tables e below (T8.setTop (mkF m 33 #[.val (.ref a1), .val (.long (0 : Int64)), .second, .val (.int p3), .val (.long q4), .second, .unset, .unset] [(.long (0 : Int64)), (.ref a1)])) _
    refine X8.ldc2Long hx hown (mvT hZ (hw _ (List.mem_of_getElem? (i := 65) rfl))) (g := (mkF m 33 #[.val (.ref a1), .val (.long (0 : Int64)), .second, .val (.int p3), .val (.long q4), .second, .unset, .unset] [(.long (0 : Int64)), (.ref a1)])) rfl (hb hby d1_33) _ ?_
    show Steps p.tables e below (T8.setTop (mkF m 36 #[.val (.ref a1), .val (.long (0 : Int64)), .second, .val (.int p3), .val (.long q4), .second, .unset, .unset] [(.long (-1 : Int64)), (.long (0 : Int64)), (.ref a1)])) _
    refine XS.lcmp X8.here hx rfl (hb hby d1_36) rfl ?_
    show Steps p.tables e below (T8.setTop (mkF m 37 #[.val (.ref a1), .val (.long (0 : Int64)), .second, .val (.int p3), .val (.long q4), .second, .unset, .unset] [(.int (lcmpW (0 : Int64) (-1 : Int64))), (.ref a1)])) _
    rw [show (lcmpW (0 : Int64) (-1 : Int64)) = (1 : Int32) from by decide]
    show Steps p.tables e below (T8.setTop (mkF m 37 #[.val (.ref a1), .val (.long (0 : Int64)), .second, .val (.int p3), .val (.long q4), .second, .unset, .unset] [(.int (1 : Int32)), (.ref a1)])) _
    refine XS.ifYes X8.here hx rfl (pc0 := 37) (pc' := 44) rfl (hb hby d1_37) rfl ((if0 _ _).trans (feq ((by decide) : ¬ ((1 : Int32) = (0 : Int32)))).2) (by decide) (by decide) ?_
    show Steps p.tables e below (T8.setTop (mkF m 44 #[.val (.ref a1), .val (.long (0 : Int64)), .second, .val (.int p3), .val (.long q4), .second, .unset, .unset] [(.ref a1)])) _
    refine XS.iconst X8.here hx rfl (hb hby d1_44) ?_
    show Steps p.tables e below (T8.setTop (mkF m 45 #[.val (.ref a1), .val (.long (0 : Int64)), .second, .val (.int p3), .val (.long q4), .second, .unset, .unset] [(.int (0 : Int32)), (.ref a1)])) _
    refine st9 _ ?_
    show Steps p.tables e below (T9.setTop (mkF m 48 #[.val (.ref a1), .val (.long (0 : Int64)), .second, .val (.int p3), .val (.long q4), .second, .unset, .unset] [])) _
    refine XS.aloadN X9.here hx rfl (hb hby d1_48) rfl rfl ?_
    show Steps p.tables e below (T9.setTop (mkF m 49 #[.val (.ref a1), .val (.long (0 : Int64)), .second, .val (.int p3), .val (.long q4), .second, .unset, .unset] [(.ref a1)])) _
    refine XS.iloadN X9.here hx rfl (hb hby d1_49) rfl ?_
    show Steps p.tables e below (T9.setTop (mkF m 50 #[.val (.ref a1), .val (.long (0 : Int64)), .second, .val (.int p3), .val (.long q4), .second, .unset, .unset] [(.int p3), (.ref a1)])) _
    refine st10 _ ?_
    show Steps p.tables e below (T10.setTop (mkF m 53 #[.val (.ref a1), .val (.long (0 : Int64)), .second, .val (.int p3), .val (.long q4), .second, .unset, .unset] [])) _
    refine XS.aloadN X10.here hx rfl (hb hby d1_53) rfl rfl ?_
    show Steps p.tables e below (T10.setTop (mkF m 54 #[.val (.ref a1), .val (.long (0 : Int64)), .second, .val (.int p3), .val (.long q4), .second, .unset, .unset] [(.ref a1)])) _
    refine XS.lload X10.here hx rfl (hb hby d1_54) rfl ?_
    show Steps p.tables e below (T10.setTop (mkF m 56 #[.val (.ref a1), .val (.long (0 : Int64)), .second, .val (.int p3), .val (.long q4), .second, .unset, .unset] [(.long q4), (.ref a1)])) _
    refine st11 _ ?_
    show Steps p.tables e below (T11.setTop (mkF m 59 #[.val (.ref a1), .val (.long (0 : Int64)), .second, .val (.int p3), .val (.long q4), .second, .unset, .unset] [])) _
    refine XS.aloadN X11.here hx rfl (hb hby d1_59) rfl rfl ?_
    show Steps p.tables e below (T11.setTop (mkF m 60 #[.val (.ref a1), .val (.long (0 : Int64)), .second, .val (.int p3), .val (.long q4), .second, .unset, .unset] [(.ref a1)])) _
    refine st12 _ ?_
    show Steps p.tables e below (T12.setTop (mkF m 63 #[.val (.ref a1), .val (.long (0 : Int64)), .second, .val (.int p3), .val (.long q4), .second, .unset, .unset] [(.int (0 : Int32))])) _
    refine XS.ifYes X12.here hx rfl (pc0 := 63) (pc' := 79) rfl (hb hby d1_63) rfl ((if0 _ _).trans (teq ((by decide) : (0 : Int32) = (0 : Int32))).1) (by decide) (by decide) ?_
    show Steps p.tables e below (T12.setTop (mkF m 79 #[.val (.ref a1), .val (.long (0 : Int64)), .second, .val (.int p3), .val (.long q4), .second, .unset, .unset] [])) _
    refine XS.lloadN X12.here hx rfl (hb hby d1_79) rfl ?_
    show Steps p.tables e below (T12.setTop (mkF m 80 #[.val (.ref a1), .val (.long (0 : Int64)), .second, .val (.int p3), .val (.long q4), .second, .unset, .unset] [(.long (0 : Int64))])) _
    refine X12.ldc2Long hx hown (mvT hZ (hw _ (List.mem_of_getElem? (i := 72) rfl))) (g := (mkF m 80 #[.val (.ref a1), .val (.long (0 : Int64)), .second, .val (.int p3), .val (.long q4), .second, .unset, .unset] [(.long (0 : Int64))])) rfl (hb hby d1_80) _ ?_
    show Steps p.tables e below (T12.setTop (mkF m 83 #[.val (.ref a1), .val (.long (0 : Int64)), .second, .val (.int p3), .val (.long q4), .second, .unset, .unset] [(.long (-2 : Int64)), (.long (0 : Int64))])) _
    refine XS.lcmp X12.here hx rfl (hb hby d1_83) rfl ?_
    show Steps p.tables e below (T12.setTop (mkF m 84 #[.val (.ref a1), .val (.long (0 : Int64)), .second, .val (.int p3), .val (.long q4), .second, .unset, .unset] [(.int (lcmpW (0 : Int64) (-2 : Int64)))])) _
    rw [show (lcmpW (0 : Int64) (-2 : Int64)) = (1 : Int32) from by decide]
    show Steps p.tables e below (T12.setTop (mkF m 84 #[.val (.ref a1), .val (.long (0 : Int64)), .second, .val (.int p3), .val (.long q4), .second, .unset, .unset] [(.int (1 : Int32))])) _
    refine XS.ifYes X12.here hx rfl (pc0 := 84) (pc' := 97) rfl (hb hby d1_84) rfl ((if0 _ _).trans (feq ((by decide) : ¬ ((1 : Int32) = (0 : Int32)))).2) (by decide) (by decide) ?_
    show Steps p.tables e below (T12.setTop (mkF m 97 #[.val (.ref a1), .val (.long (0 : Int64)), .second, .val (.int p3), .val (.long q4), .second, .unset, .unset] [])) _
    refine XS.lloadN X12.here hx rfl (hb hby d1_97) rfl ?_
    show Steps p.tables e below (T12.setTop (mkF m 98 #[.val (.ref a1), .val (.long (0 : Int64)), .second, .val (.int p3), .val (.long q4), .second, .unset, .unset] [(.long (0 : Int64))])) _
    refine XS.iloadN X12.here hx rfl (hb hby d1_98) rfl ?_
    show Steps p.tables e below (T12.setTop (mkF m 99 #[.val (.ref a1), .val (.long (0 : Int64)), .second, .val (.int p3), .val (.long q4), .second, .unset, .unset] [(.int p3), (.long (0 : Int64))])) _
    refine XS.i2l X12.here hx rfl (hb hby d1_99) rfl ?_
    show Steps p.tables e below (T12.setTop (mkF m 100 #[.val (.ref a1), .val (.long (0 : Int64)), .second, .val (.int p3), .val (.long q4), .second, .unset, .unset] [(.long (p3.toInt64)), (.long (0 : Int64))])) _
    refine st13 _ ?_
    show Steps p.tables e below (T13.setTop (mkF m 103 #[.val (.ref a1), .val (.long (0 : Int64)), .second, .val (.int p3), .val (.long q4), .second, .unset, .unset] [(.long (0 : Int64))])) _
    refine XS.lstore X13.here hx rfl (hb hby d1_103) rfl (l' := #[.val (.ref a1), .val (.long (0 : Int64)), .second, .val (.int p3), .val (.long q4), .second, .val (.long (0 : Int64)), .second]) rfl ?_
    show Steps p.tables e below (T13.setTop (mkF m 105 #[.val (.ref a1), .val (.long (0 : Int64)), .second, .val (.int p3), .val (.long q4), .second, .val (.long (0 : Int64)), .second] [])) _
    refine XS.aloadN X13.here hx rfl (hb hby d1_105) rfl rfl ?_
    show Steps p.tables e below (T13.setTop (mkF m 106 #[.val (.ref a1), .val (.long (0 : Int64)), .second, .val (.int p3), .val (.long q4), .second, .val (.long (0 : Int64)), .second] [(.ref a1)])) _
    refine XS.lloadN X13.here hx rfl (hb hby d1_106) rfl ?_
    show Steps p.tables e below (T13.setTop (mkF m 107 #[.val (.ref a1), .val (.long (0 : Int64)), .second, .val (.int p3), .val (.long q4), .second, .val (.long (0 : Int64)), .second] [(.long (0 : Int64)), (.ref a1)])) _
    refine XS.lload X13.here hx rfl (hb hby d1_107) rfl ?_
    show Steps p.tables e below (T13.setTop (mkF m 109 #[.val (.ref a1), .val (.long (0 : Int64)), .second, .val (.int p3), .val (.long q4), .second, .val (.long (0 : Int64)), .second] [(.long (0 : Int64)), (.long (0 : Int64)), (.ref a1)])) _
    refine XS.lsub X13.here hx rfl (hb hby d1_109) rfl ?_
    show Steps p.tables e below (T13.setTop (mkF m 110 #[.val (.ref a1), .val (.long (0 : Int64)), .second, .val (.int p3), .val (.long q4), .second, .val (.long (0 : Int64)), .second] [(.long ((0 : Int64) - (0 : Int64))), (.ref a1)])) _
    rw [show ((0 : Int64) - (0 : Int64)) = (0 : Int64) from by decide]
    show Steps p.tables e below (T13.setTop (mkF m 110 #[.val (.ref a1), .val (.long (0 : Int64)), .second, .val (.int p3), .val (.long q4), .second, .val (.long (0 : Int64)), .second] [(.long (0 : Int64)), (.ref a1)])) _
    refine st14 _ ?_
    show Steps p.tables e below (T14.setTop (mkF m 113 #[.val (.ref a1), .val (.long (0 : Int64)), .second, .val (.int p3), .val (.long q4), .second, .val (.long (0 : Int64)), .second] [])) _
    refine XS.aloadN X14.here hx rfl (hb hby d1_113) rfl rfl ?_
    show Steps p.tables e below (T14.setTop (mkF m 114 #[.val (.ref a1), .val (.long (0 : Int64)), .second, .val (.int p3), .val (.long q4), .second, .val (.long (0 : Int64)), .second] [(.ref a1)])) _
    refine st15 _ ?_
    show Steps p.tables e below (T15.setTop (mkF m 117 #[.val (.ref a1), .val (.long (0 : Int64)), .second, .val (.int p3), .val (.long q4), .second, .val (.long (0 : Int64)), .second] [(.ref w_n4), (.ref a1)])) _
    refine st16 _ ?_
    show Steps p.tables e below (T16.setTop (mkF m 120 #[.val (.ref a1), .val (.long (0 : Int64)), .second, .val (.int p3), .val (.long q4), .second, .val (.long (0 : Int64)), .second] [])) _
    refine XS.aloadN X16.here hx rfl (hb hby d1_120) rfl rfl ?_
    show Steps p.tables e below (T16.setTop (mkF m 121 #[.val (.ref a1), .val (.long (0 : Int64)), .second, .val (.int p3), .val (.long q4), .second, .val (.long (0 : Int64)), .second] [(.ref a1)])) _
    refine XS.lload X16.here hx rfl (hb hby d1_121) rfl ?_
    show Steps p.tables e below (T16.setTop (mkF m 123 #[.val (.ref a1), .val (.long (0 : Int64)), .second, .val (.int p3), .val (.long q4), .second, .val (.long (0 : Int64)), .second] [(.long (0 : Int64)), (.ref a1)])) _
    refine st17 _ ?_
    show Steps p.tables e below (T17.setTop (mkF m 126 #[.val (.ref a1), .val (.long (0 : Int64)), .second, .val (.int p3), .val (.long q4), .second, .val (.long (0 : Int64)), .second] [])) _
    refine XS.aloadN X17.here hx rfl (hb hby d1_126) rfl rfl ?_
    show Steps p.tables e below (T17.setTop (mkF m 127 #[.val (.ref a1), .val (.long (0 : Int64)), .second, .val (.int p3), .val (.long q4), .second, .val (.long (0 : Int64)), .second] [(.ref a1)])) _
    refine st18.trans ?_
    show Steps p.tables e below (T18.setTop (mkF m 130 #[.val (.ref a1), .val (.long (0 : Int64)), .second, .val (.int p3), .val (.long q4), .second, .val (.long (0 : Int64)), .second] [])) _
    exact X18.returnOut hx Bd.returns (hb hby d1_130) hr
  · show QW (fun v h => ∃ b2 : Addr, ∃ b3_b1_b2 : Addr, ∃ k3_k1_k2 : ClassId, v = none ∧ Keep h0 h [a1] ∧ n0 ≤ b2 ∧ h0.size ≤ b2 ∧ n0 ≤ b3_b1_b2 ∧ h0.size ≤ b3_b1_b2 ∧ Exa Z h a1 "com/example/tillwire/tillwire/HttpFraming$BodyReader" ∧ Fld Z h a1 "com/example/tillwire/tillwire/HttpFraming$BodyReader" "kept" "Ljava/io/ByteArrayOutputStream;" (.ref b2) ∧ Fld Z h a1 "com/example/tillwire/tillwire/HttpFraming$BodyReader" "whole" "Z" (.int (0 : Int32)) ∧ Fld Z h a1 "com/example/tillwire/tillwire/HttpFraming$BodyReader" "part" "Lcom/example/tillwire/tillwire/HttpFraming$BodyReader$Part;" (.ref w_n3) ∧ Exa Z h b2 "java/io/ByteArrayOutputStream" ∧ Unt h b2 ∧ Fld Z h b2 "java/io/ByteArrayOutputStream" "buf" "[B" (.ref b3_b1_b2) ∧ Fld Z h b2 "java/io/ByteArrayOutputStream" "count" "I" (.int (0 : Int32)) ∧ Exa Z h b3_b1_b2 "[B" ∧ Arv Z h b3_b1_b2 k3_k1_k2 .byte (32 : Int32) [] (.int (0 : Int32))) n0 _ T18.heap _
    exact ⟨N18, ⟨b2, b3_b1_b2, k3_k1_k2, rfl, K18, g_b2, sz_b2, g_b3_b1_b2, sz_b3_b1_b2, fp18_0, fp18_1, fp18_2, fp18_4, f18_1, f18_2, f18_3, f18_4, f18_5, f18_6⟩⟩
set_option maxRecDepth 65536 in
set_option maxHeartbeats 40000000 in
theorem rm_n2 (l : Launch) (Z : State) (a0 : Array Value) (hw : ∀ d ∈ tables_1, d.before a0 Z = true) (ws : List Jvm.Cond) {w_n2 : Addr} {w_n3 : Addr} {w_n4 : Addr} {w_n1 : Addr} {v_n0 : Int32} (W : Wd Z w_n2 w_n3 w_n4 w_n1 v_n0) (a1 : Addr) (q2 : Int64) (q4 : Int64) (h0 : Heap) (n0 : Nat) (O0 : Old Z n0 h0) (xa : ¬ ((lcmpW q2 (-1 : Int64)) = (0 : Int32))) (xb : ¬ ((lcmpW q2 (-2 : Int64)) = (0 : Int32))) (xm : (0 : Int32) < (lcmpW q2 (0 : Int64))) (xk : (0 : Int32) < (lcmpW ((0 : Int64) + (q2 - (0 : Int64))) q4)) (g_a1 : n0 ≤ a1) (hf0 : Exa Z h0 a1 "com/example/tillwire/tillwire/HttpFraming$BodyReader") (hf1 : Fld Z h0 a1 "com/example/tillwire/tillwire/HttpFraming$BodyReader" "kept" "Ljava/io/ByteArrayOutputStream;" .null) (hf2 : Fld Z h0 a1 "com/example/tillwire/tillwire/HttpFraming$BodyReader" "line" "Lcom/example/tillwire/tillwire/HttpFraming$Line;" .null) (hf3 : Fld Z h0 a1 "com/example/tillwire/tillwire/HttpFraming$BodyReader" "whole" "Z" (.int (0 : Int32))) (hf4 : Fld Z h0 a1 "com/example/tillwire/tillwire/HttpFraming$BodyReader" "chunked" "Z" (.int (0 : Int32))) (hf5 : Fld Z h0 a1 "com/example/tillwire/tillwire/HttpFraming$BodyReader" "keep" "I" (.int (0 : Int32))) (hf6 : Fld Z h0 a1 "com/example/tillwire/tillwire/HttpFraming$BodyReader" "skip" "J" (.long (0 : Int64))) (hf7 : Fld Z h0 a1 "com/example/tillwire/tillwire/HttpFraming$BodyReader" "part" "Lcom/example/tillwire/tillwire/HttpFraming$BodyReader$Part;" .null) (hf8 : Fld Z h0 a1 "com/example/tillwire/tillwire/HttpFraming$BodyReader" "passed" "J" (.long (0 : Int64))) (hf9 : Fld Z h0 a1 "com/example/tillwire/tillwire/HttpFraming$BodyReader" "left" "J" (.long (0 : Int64))) (hf10 : Fld Z h0 a1 "com/example/tillwire/tillwire/HttpFraming$BodyReader" "skipped" "J" (.long (0 : Int64))) :
    MetFree l (⟨"com/example/tillwire/tillwire/HttpFraming$BodyReader", "<init>", "(JIJ)V"⟩ : MethodName) (head1 (Jvm.Cond.code (⟨"com/example/tillwire/tillwire/HttpFraming$BodyReader", "<init>", "(JIJ)V"⟩ : MethodName) prog_23_method_1_code 8 none :: ws) ({ frames := 4, cells := 5, slots := 56, locals := 53 } : Room)) (fun a U => a = #[(.ref a1), (.long q2), (.int (0 : Int32)), (.long q4)] ∧ Z.Warmed39 U.vm ∧ U.heap = h0) (fun _ _ _ _ _ => True) (fun _ U o U' => ∃ v L, o = .returned v ∧ QW (fun v h => ∃ b2 : Addr, ∃ b3_b1_b2 : Addr, ∃ k3_k1_k2 : ClassId, v = none ∧ Keep h0 h [a1] ∧ n0 ≤ b2 ∧ h0.size ≤ b2 ∧ n0 ≤ b3_b1_b2 ∧ h0.size ≤ b3_b1_b2 ∧ Exa Z h a1 "com/example/tillwire/tillwire/HttpFraming$BodyReader" ∧ Fld Z h a1 "com/example/tillwire/tillwire/HttpFraming$BodyReader" "kept" "Ljava/io/ByteArrayOutputStream;" (.ref b2) ∧ Fld Z h a1 "com/example/tillwire/tillwire/HttpFraming$BodyReader" "whole" "Z" (.int (0 : Int32)) ∧ Fld Z h a1 "com/example/tillwire/tillwire/HttpFraming$BodyReader" "part" "Lcom/example/tillwire/tillwire/HttpFraming$BodyReader$Part;" (.ref w_n3) ∧ Exa Z h b2 "java/io/ByteArrayOutputStream" ∧ Unt h b2 ∧ Fld Z h b2 "java/io/ByteArrayOutputStream" "buf" "[B" (.ref b3_b1_b2) ∧ Fld Z h b2 "java/io/ByteArrayOutputStream" "count" "I" (.int (0 : Int32)) ∧ Exa Z h b3_b1_b2 "[B" ∧ Arv Z h b3_b1_b2 k3_k1_k2 .byte (32 : Int32) [] (.int (0 : Int32))) n0 v U'.heap L ∧ FrameEnd U o U' L ({ frames := 4, cells := 5, slots := 56, locals := 53 } : Room).cells ({ frames := 4, cells := 5, slots := 56, locals := 53 } : Room).slots) := by
  have W' := W; obtain ⟨S_n2, E_n2, S_n3, E_n3, S_n4, E_n4, S_n1, E_n1, S_n0, N_n0, F_n2_ordinal, F_n3_ordinal⟩ := W'
  refine MetFree.of_bodySF (plainFor_of_name pn_1) hisR ?_
  intro p e s m args below meth c s₁ Bd hml0 hP hK
  obtain ⟨rfl, hZ, hh⟩ := hP
  have hx := Bd.exec
  have hby := Bd.bytes
  have hml : c.maxLocals = 8 := hml0
  have hown : s.vm.findClass "com/example/tillwire/tillwire/HttpFraming$BodyReader" = some m.cls := findClass_of_methodNamed Bd.named
  have hnm := (name_of_methodNamed Bd.named Bd.method).1
  have X0 : Stand p l e ({ frames := 4, cells := 5, slots := 56, locals := 53 } : Room) s m #[(.ref a1), (.long q2), (.int (0 : Int32)), (.long q4)] below meth c s₁ [] 0 0 := Stand.of_body Bd
  have e0 : s₁.heap = h0 := by rw [← hh, Bd.state]; rfl
  have N0 := Fr.nil n0
  have pre0 : ∀ t, Steps p.tables e below (s₁.setTop (mkF m 0 #[.val (.ref a1), .val (.long q2), .second, .val (.int (0 : Int32)), .val (.long q4), .second, .unset, .unset] [])) t → Steps p.tables e below (s₁.setTop (entryFrame m #[(.ref a1), (.long q2), (.int (0 : Int32)), (.long q4)] 8)) t := fun t k => castTop (ef_1_10 m a1 q2 (0 : Int32) q4) k
  obtain ⟨T1, X1, e1, st1⟩ := initO X0 hx hZ hown (hw _ (List.mem_of_getElem? (i := 8) rfl)) (hw _ (List.mem_of_getElem? (i := 9) rfl)) (hw _ (List.mem_of_getElem? (i := 10) rfl)) e0 (g := (mkF m 1 #[.val (.ref a1), .val (.long q2), .second, .val (.int (0 : Int32)), .val (.long q4), .second, .unset, .unset] [(.ref a1)])) rfl (by rw [hml]; rfl) rfl (hb hby d1_1) (by decide) (W := 0) (by show 2 * 0 + _ ≤ _; exact Nat.le_of_eq rfl) (by decide)
  obtain ⟨T2, h2, X2, e2, E2, A2, D2, U2, st2⟩ := newO X1 hx hZ hown (hw _ (List.mem_of_getElem? (i := 11) rfl)) (hw _ (List.mem_of_getElem? (i := 12) rfl)) (hw _ (List.mem_of_getElem? (i := 13) rfl)) e1 (g := (mkF m 5 #[.val (.ref a1), .val (.long q2), .second, .val (.int (0 : Int32)), .val (.long q4), .second, .unset, .unset] [(.ref a1)])) rfl (hb hby d1_5) (by decide) (by decide)
  obtain ⟨b2, g2⟩ : ∃ z, z = h0.size := ⟨_, rfl⟩
  rw [← g2] at A2 D2 U2 st2
  have lt_a1_b2 : a1 < h0.size := (hf0).lt
  have g_b2 : n0 ≤ b2 := by rw [g2]; exact O0.1 ▸ O0.2.1
  have sz_b2 : h0.size ≤ b2 := by rw [g2]; exact (Keep.refl h0 [a1]).1
  have f2_0 : Exa Z h2 a1 "com/example/tillwire/tillwire/HttpFraming$BodyReader" := (hf0).ext E2
  have f2_1 : Fld Z h2 a1 "com/example/tillwire/tillwire/HttpFraming$BodyReader" "kept" "Ljava/io/ByteArrayOutputStream;" .null := (hf1).ext E2
  have f2_2 : Fld Z h2 a1 "com/example/tillwire/tillwire/HttpFraming$BodyReader" "line" "Lcom/example/tillwire/tillwire/HttpFraming$Line;" .null := (hf2).ext E2
  have f2_3 : Fld Z h2 a1 "com/example/tillwire/tillwire/HttpFraming$BodyReader" "whole" "Z" (.int (0 : Int32)) := (hf3).ext E2
  have f2_4 : Fld Z h2 a1 "com/example/tillwire/tillwire/HttpFraming$BodyReader" "chunked" "Z" (.int (0 : Int32)) := (hf4).ext E2
  have f2_5 : Fld Z h2 a1 "com/example/tillwire/tillwire/HttpFraming$BodyReader" "keep" "I" (.int (0 : Int32)) := (hf5).ext E2
  have f2_6 : Fld Z h2 a1 "com/example/tillwire/tillwire/HttpFraming$BodyReader" "skip" "J" (.long (0 : Int64)) := (hf6).ext E2
  have f2_7 : Fld Z h2 a1 "com/example/tillwire/tillwire/HttpFraming$BodyReader" "part" "Lcom/example/tillwire/tillwire/HttpFraming$BodyReader$Part;" .null := (hf7).ext E2
  have f2_8 : Fld Z h2 a1 "com/example/tillwire/tillwire/HttpFraming$BodyReader" "passed" "J" (.long (0 : Int64)) := (hf8).ext E2
  have f2_9 : Fld Z h2 a1 "com/example/tillwire/tillwire/HttpFraming$BodyReader" "left" "J" (.long (0 : Int64)) := (hf9).ext E2
  have f2_10 : Fld Z h2 a1 "com/example/tillwire/tillwire/HttpFraming$BodyReader" "skipped" "J" (.long (0 : Int64)) := (hf10).ext E2
  have O2 := O0.ext E2
  have K2 : Keep h0 h2 [a1] := (Keep.refl h0 [a1]).ext E2
  have f2_buf : Fld Z h2 b2 "java/io/ByteArrayOutputStream" "buf" "[B" .null := D2 (Or.inl (hw _ (List.mem_of_getElem? (i := 30) rfl))) (ty := (.array .byte)) (by decide)
  have f2_count : Fld Z h2 b2 "java/io/ByteArrayOutputStream" "count" "I" (.int (0 : Int32)) := D2 (Or.inl (hw _ (List.mem_of_getElem? (i := 106) rfl))) (ty := .int) (by decide)
  obtain ⟨_, _, ⟨T3, L3, k3, n3⟩, -, X3, ⟨Lc3, hQ3, l3, y3, z3⟩, st3⟩ := X2.specialBack hx (y := (⟨"java/io/ByteArrayOutputStream", "<init>", "()V"⟩ : MethodName)) rfl hown (mvT hZ (hw _ (List.mem_of_getElem? (i := 14) rfl))) (mvT hZ (hw _ (List.mem_of_getElem? (i := 15) rfl))) (mvT hZ (hw _ (List.mem_of_getElem? (i := 16) rfl))) (by decide) (backOf (W := 2) (rm_bo l Z a0 hw [] W b2 h2 n0 O2 g_b2 A2 U2 f2_buf f2_count) hZ (hw _ (List.mem_of_getElem? (i := 16) rfl)) (hw _ (List.mem_of_getElem? (i := 13) rfl)) (by decide) (by decide)) (g := (mkF m 9 #[.val (.ref a1), .val (.long q2), .second, .val (.int (0 : Int32)), .val (.long q4), .second, .unset, .unset] [(.ref b2), (.ref b2), (.ref a1)])) rfl (by rw [hml]; rfl) (Steps.refl _) (a := b2) (argsL := []) (rest := [(.ref b2), (.ref a1)]) (lenOf pd_0 rfl) rfl (by show 2 * 0 + _ ≤ _; exact Nat.le_of_eq rfl) (hb hby d1_9) (fun _ _ => ⟨rfl, e2, (by decide : 1 + 1 ≤ _), (by decide : 2 + 32 ≤ _)⟩)
  dsimp only [Pt.U, Pt.locs, Pt.cells, Pt.slots] at X3 l3 y3 z3 st3 hQ3
  subst l3 y3 z3
  obtain ⟨N3q, hP3⟩ := hQ3
  have N3 := Fr.app N0 N3q
  obtain ⟨b3_b1_b2, k3_k1_k2, rfl, Kp3, g_b3_b1_b2, si_b3_b1_b2, fp3_0, fp3_1, fp3_2, fp3_3, fp3_4, fp3_5⟩ := hP3
  have f3_0 : Exa Z T3.heap a1 "com/example/tillwire/tillwire/HttpFraming$BodyReader" := (f2_0).keep Kp3
  have f3_1 : Fld Z T3.heap a1 "com/example/tillwire/tillwire/HttpFraming$BodyReader" "kept" "Ljava/io/ByteArrayOutputStream;" .null := (f2_1).keep Kp3 (ninS (ne_exa f2_0 A2 (by decide)) nin0)
  have f3_2 : Fld Z T3.heap a1 "com/example/tillwire/tillwire/HttpFraming$BodyReader" "line" "Lcom/example/tillwire/tillwire/HttpFraming$Line;" .null := (f2_2).keep Kp3 (ninS (ne_exa f2_0 A2 (by decide)) nin0)
  have f3_3 : Fld Z T3.heap a1 "com/example/tillwire/tillwire/HttpFraming$BodyReader" "whole" "Z" (.int (0 : Int32)) := (f2_3).keep Kp3 (ninS (ne_exa f2_0 A2 (by decide)) nin0)
  have f3_4 : Fld Z T3.heap a1 "com/example/tillwire/tillwire/HttpFraming$BodyReader" "chunked" "Z" (.int (0 : Int32)) := (f2_4).keep Kp3 (ninS (ne_exa f2_0 A2 (by decide)) nin0)
  have f3_5 : Fld Z T3.heap a1 "com/example/tillwire/tillwire/HttpFraming$BodyReader" "keep" "I" (.int (0 : Int32)) := (f2_5).keep Kp3 (ninS (ne_exa f2_0 A2 (by decide)) nin0)
  have f3_6 : Fld Z T3.heap a1 "com/example/tillwire/tillwire/HttpFraming$BodyReader" "skip" "J" (.long (0 : Int64)) := (f2_6).keep Kp3 (ninS (ne_exa f2_0 A2 (by decide)) nin0)
  have f3_7 : Fld Z T3.heap a1 "com/example/tillwire/tillwire/HttpFraming$BodyReader" "part" "Lcom/example/tillwire/tillwire/HttpFraming$BodyReader$Part;" .null := (f2_7).keep Kp3 (ninS (ne_exa f2_0 A2 (by decide)) nin0)
  have f3_8 : Fld Z T3.heap a1 "com/example/tillwire/tillwire/HttpFraming$BodyReader" "passed" "J" (.long (0 : Int64)) := (f2_8).keep Kp3 (ninS (ne_exa f2_0 A2 (by decide)) nin0)
  have f3_9 : Fld Z T3.heap a1 "com/example/tillwire/tillwire/HttpFraming$BodyReader" "left" "J" (.long (0 : Int64)) := (f2_9).keep Kp3 (ninS (ne_exa f2_0 A2 (by decide)) nin0)
  have f3_10 : Fld Z T3.heap a1 "com/example/tillwire/tillwire/HttpFraming$BodyReader" "skipped" "J" (.long (0 : Int64)) := (f2_10).keep Kp3 (ninS (ne_exa f2_0 A2 (by decide)) nin0)
  have f3_11 : Exa Z T3.heap b2 "java/io/ByteArrayOutputStream" := (A2).keep Kp3
  have O3 := O2.keep Kp3 (allS g_b2 all0)
  have sz_b3_b1_b2 : h0.size ≤ b3_b1_b2 := Nat.le_trans (K2).1 si_b3_b1_b2
  have K3 : Keep h0 T3.heap [a1] := K2.trans Kp3 (allS (Or.inr sz_b2) all0)
  obtain ⟨T4, h4, X4, e4, W4, st4⟩ := putF X3 hx hZ hown (host := "") (Or.inl (hw _ (List.mem_of_getElem? (i := 31) rfl))) Via.refl rfl f3_1 f3_0 (Or.inr ⟨(hw _ (List.mem_of_getElem? (i := 32) rfl)), rfl, hnm⟩) (hw _ (List.mem_of_getElem? (i := 3) rfl)) (ty := (.object "java/io/ByteArrayOutputStream")) (by decide) rfl rfl (g := (mkF m 12 #[.val (.ref a1), .val (.long q2), .second, .val (.int (0 : Int32)), .val (.long q4), .second, .unset, .unset] [(.ref b2), (.ref a1)])) rfl rfl (hb hby d1_12)
  have fw4 : Fld Z h4 a1 "com/example/tillwire/tillwire/HttpFraming$BodyReader" "kept" "Ljava/io/ByteArrayOutputStream;" (.ref b2) := (f3_1).same W4
  have f4_0 : Exa Z h4 a1 "com/example/tillwire/tillwire/HttpFraming$BodyReader" := (f3_0).wr W4
  have f4_1 : Fld Z h4 a1 "com/example/tillwire/tillwire/HttpFraming$BodyReader" "line" "Lcom/example/tillwire/tillwire/HttpFraming$Line;" .null := (f3_2).other W4 (Or.inr (slot_ne (Or.inr (hw _ (List.mem_of_getElem? (i := 62) rfl))) (Or.inr (hw _ (List.mem_of_getElem? (i := 32) rfl))) (by decide) (t := (.object "com/example/tillwire/tillwire/HttpFraming$Line")) (t' := (.object "java/io/ByteArrayOutputStream")) (by decide) (by decide)))
  have f4_2 : Fld Z h4 a1 "com/example/tillwire/tillwire/HttpFraming$BodyReader" "whole" "Z" (.int (0 : Int32)) := (f3_3).other W4 (Or.inr (slot_ne (Or.inl (hw _ (List.mem_of_getElem? (i := 64) rfl))) (Or.inr (hw _ (List.mem_of_getElem? (i := 32) rfl))) (by decide) (t := .boolean) (t' := (.object "java/io/ByteArrayOutputStream")) (by decide) (by decide)))
  have f4_3 : Fld Z h4 a1 "com/example/tillwire/tillwire/HttpFraming$BodyReader" "chunked" "Z" (.int (0 : Int32)) := (f3_4).other W4 (Or.inr (slot_ne (Or.inr (hw _ (List.mem_of_getElem? (i := 67) rfl))) (Or.inr (hw _ (List.mem_of_getElem? (i := 32) rfl))) (by decide) (t := .boolean) (t' := (.object "java/io/ByteArrayOutputStream")) (by decide) (by decide)))
  have f4_4 : Fld Z h4 a1 "com/example/tillwire/tillwire/HttpFraming$BodyReader" "keep" "I" (.int (0 : Int32)) := (f3_5).other W4 (Or.inr (slot_ne (Or.inr (hw _ (List.mem_of_getElem? (i := 69) rfl))) (Or.inr (hw _ (List.mem_of_getElem? (i := 32) rfl))) (by decide) (t := .int) (t' := (.object "java/io/ByteArrayOutputStream")) (by decide) (by decide)))
  have f4_5 : Fld Z h4 a1 "com/example/tillwire/tillwire/HttpFraming$BodyReader" "skip" "J" (.long (0 : Int64)) := (f3_6).other W4 (Or.inr (slot_ne (Or.inr (hw _ (List.mem_of_getElem? (i := 71) rfl))) (Or.inr (hw _ (List.mem_of_getElem? (i := 32) rfl))) (by decide) (t := .long) (t' := (.object "java/io/ByteArrayOutputStream")) (by decide) (by decide)))
  have f4_6 : Fld Z h4 a1 "com/example/tillwire/tillwire/HttpFraming$BodyReader" "part" "Lcom/example/tillwire/tillwire/HttpFraming$BodyReader$Part;" .null := (f3_7).other W4 (Or.inr (slot_ne (Or.inl (hw _ (List.mem_of_getElem? (i := 77) rfl))) (Or.inr (hw _ (List.mem_of_getElem? (i := 32) rfl))) (by decide) (t := (.object "com/example/tillwire/tillwire/HttpFraming$BodyReader$Part")) (t' := (.object "java/io/ByteArrayOutputStream")) (by decide) (by decide)))
  have f4_7 : Fld Z h4 a1 "com/example/tillwire/tillwire/HttpFraming$BodyReader" "passed" "J" (.long (0 : Int64)) := (f3_8).other W4 (Or.inr (slot_ne (Or.inl (hw _ (List.mem_of_getElem? (i := 123) rfl))) (Or.inr (hw _ (List.mem_of_getElem? (i := 32) rfl))) (by decide) (t := .long) (t' := (.object "java/io/ByteArrayOutputStream")) (by decide) (by decide)))
  have f4_8 : Fld Z h4 a1 "com/example/tillwire/tillwire/HttpFraming$BodyReader" "left" "J" (.long (0 : Int64)) := (f3_9).other W4 (Or.inr (slot_ne (Or.inl (hw _ (List.mem_of_getElem? (i := 127) rfl))) (Or.inr (hw _ (List.mem_of_getElem? (i := 32) rfl))) (by decide) (t := .long) (t' := (.object "java/io/ByteArrayOutputStream")) (by decide) (by decide)))
  have f4_9 : Fld Z h4 a1 "com/example/tillwire/tillwire/HttpFraming$BodyReader" "skipped" "J" (.long (0 : Int64)) := (f3_10).other W4 (Or.inr (slot_ne (Or.inl (hw _ (List.mem_of_getElem? (i := 133) rfl))) (Or.inr (hw _ (List.mem_of_getElem? (i := 32) rfl))) (by decide) (t := .long) (t' := (.object "java/io/ByteArrayOutputStream")) (by decide) (by decide)))
  have f4_10 : Exa Z h4 b2 "java/io/ByteArrayOutputStream" := (fp3_0).wr W4
  have f4_11 : Unt h4 b2 := Unt.wr W4 fp3_1
  have f4_12 : Fld Z h4 b2 "java/io/ByteArrayOutputStream" "buf" "[B" (.ref b3_b1_b2) := (fp3_2).other W4 (Or.inl (ne_exa fp3_0 f3_0 (by decide)))
  have f4_13 : Fld Z h4 b2 "java/io/ByteArrayOutputStream" "count" "I" (.int (0 : Int32)) := (fp3_3).other W4 (Or.inl (ne_exa fp3_0 f3_0 (by decide)))
  have f4_14 : Exa Z h4 b3_b1_b2 "[B" := (fp3_4).wr W4
  have f4_15 : Arv Z h4 b3_b1_b2 k3_k1_k2 .byte (32 : Int32) [] (.int (0 : Int32)) := (fp3_5).other W4 (ne_exa fp3_4 f3_0 (by decide))
  have O4 := O3.wr W4 g_a1
  have N4 := Fr.snoc X4 N3 g_a1
  have K4 : Keep h0 h4 [a1] := K3.wr W4 (Or.inl (List.mem_of_getElem? (i := 0) rfl))
  obtain ⟨T5, h5, X5, e5, E5, A5, D5, U5, st5⟩ := newO X4 hx hZ hown (hw _ (List.mem_of_getElem? (i := 33) rfl)) (hw _ (List.mem_of_getElem? (i := 34) rfl)) (hw _ (List.mem_of_getElem? (i := 35) rfl)) e4 (g := (mkF m 16 #[.val (.ref a1), .val (.long q2), .second, .val (.int (0 : Int32)), .val (.long q4), .second, .unset, .unset] [(.ref a1)])) rfl (hb hby d1_16) (by decide) (by decide)
  obtain ⟨b5, g5⟩ : ∃ z, z = h4.size := ⟨_, rfl⟩
  rw [← g5] at A5 D5 U5 st5
  have lt_a1_b5 : a1 < h4.size := (f4_0).lt
  have lt_b2_b5 : b2 < h4.size := (f4_10).lt
  have lt_b3_b1_b2_b5 : b3_b1_b2 < h4.size := (f4_14).lt
  have g_b5 : n0 ≤ b5 := by rw [g5]; exact O4.1 ▸ O4.2.1
  have sz_b5 : h0.size ≤ b5 := by rw [g5]; exact K4.1
  have f5_0 : Exa Z h5 a1 "com/example/tillwire/tillwire/HttpFraming$BodyReader" := (f4_0).ext E5
  have f5_1 : Fld Z h5 a1 "com/example/tillwire/tillwire/HttpFraming$BodyReader" "line" "Lcom/example/tillwire/tillwire/HttpFraming$Line;" .null := (f4_1).ext E5
  have f5_2 : Fld Z h5 a1 "com/example/tillwire/tillwire/HttpFraming$BodyReader" "whole" "Z" (.int (0 : Int32)) := (f4_2).ext E5
  have f5_3 : Fld Z h5 a1 "com/example/tillwire/tillwire/HttpFraming$BodyReader" "chunked" "Z" (.int (0 : Int32)) := (f4_3).ext E5
  have f5_4 : Fld Z h5 a1 "com/example/tillwire/tillwire/HttpFraming$BodyReader" "keep" "I" (.int (0 : Int32)) := (f4_4).ext E5
  have f5_5 : Fld Z h5 a1 "com/example/tillwire/tillwire/HttpFraming$BodyReader" "skip" "J" (.long (0 : Int64)) := (f4_5).ext E5
  have f5_6 : Fld Z h5 a1 "com/example/tillwire/tillwire/HttpFraming$BodyReader" "part" "Lcom/example/tillwire/tillwire/HttpFraming$BodyReader$Part;" .null := (f4_6).ext E5
  have f5_7 : Fld Z h5 a1 "com/example/tillwire/tillwire/HttpFraming$BodyReader" "passed" "J" (.long (0 : Int64)) := (f4_7).ext E5
  have f5_8 : Fld Z h5 a1 "com/example/tillwire/tillwire/HttpFraming$BodyReader" "left" "J" (.long (0 : Int64)) := (f4_8).ext E5
  have f5_9 : Fld Z h5 a1 "com/example/tillwire/tillwire/HttpFraming$BodyReader" "skipped" "J" (.long (0 : Int64)) := (f4_9).ext E5
  have f5_10 : Exa Z h5 b2 "java/io/ByteArrayOutputStream" := (f4_10).ext E5
  have f5_11 : Unt h5 b2 := Unt.ext E5 f4_11
  have f5_12 : Fld Z h5 b2 "java/io/ByteArrayOutputStream" "buf" "[B" (.ref b3_b1_b2) := (f4_12).ext E5
  have f5_13 : Fld Z h5 b2 "java/io/ByteArrayOutputStream" "count" "I" (.int (0 : Int32)) := (f4_13).ext E5
  have f5_14 : Exa Z h5 b3_b1_b2 "[B" := (f4_14).ext E5
  have f5_15 : Arv Z h5 b3_b1_b2 k3_k1_k2 .byte (32 : Int32) [] (.int (0 : Int32)) := (f4_15).ext E5
  have f5_16 : Fld Z h5 a1 "com/example/tillwire/tillwire/HttpFraming$BodyReader" "kept" "Ljava/io/ByteArrayOutputStream;" (.ref b2) := (fw4).ext E5
  have O5 := O4.ext E5
  have K5 : Keep h0 h5 [a1] := K4.ext E5
  have f5_text : Fld Z h5 b5 "com/example/tillwire/tillwire/HttpFraming$Line" "text" "Ljava/lang/StringBuilder;" .null := D5 (Or.inr (hw _ (List.mem_of_getElem? (i := 60) rfl))) (ty := (.object "java/lang/StringBuilder")) (by decide)
  obtain ⟨_, _, ⟨T6, L6, k6, n6⟩, -, X6, ⟨Lc6, hQ6, l6, y6, z6⟩, st6⟩ := X5.specialBackNest hx (y := (⟨"com/example/tillwire/tillwire/HttpFraming$Line", "<init>", "()V"⟩ : MethodName)) rfl hown (Cond.methodLinkNest_wide hZ (hw _ (List.mem_of_getElem? (i := 36) rfl)) :) (mvT hZ (hw _ (List.mem_of_getElem? (i := 37) rfl))) (mvT hZ (hw _ (List.mem_of_getElem? (i := 38) rfl))) (by decide) (backOf (W := 2) (rm_ln l Z a0 hw [] W b5 h5 n0 O5 g_b5 A5 f5_text) hZ (hw _ (List.mem_of_getElem? (i := 38) rfl)) (hw _ (List.mem_of_getElem? (i := 35) rfl)) (by decide) (by decide)) (g := (mkF m 20 #[.val (.ref a1), .val (.long q2), .second, .val (.int (0 : Int32)), .val (.long q4), .second, .unset, .unset] [(.ref b5), (.ref b5), (.ref a1)])) rfl (by rw [hml]; rfl) (Steps.refl _) (a := b5) (argsL := []) (rest := [(.ref b5), (.ref a1)]) (lenOf pd_0 rfl) rfl (by show 2 * 0 + _ ≤ _; exact Nat.le_of_eq rfl) (hb hby d1_20) (fun _ _ => ⟨rfl, e5, (by decide : 3 + 2 ≤ _), (by decide : 36 + 20 ≤ _)⟩)
  dsimp only [Pt.U, Pt.locs, Pt.cells, Pt.slots] at X6 l6 y6 z6 st6 hQ6
  subst l6 y6 z6
  obtain ⟨N6q, hP6⟩ := hQ6
  have N6 := Fr.app N4 N6q
  obtain ⟨rfl, Kp6, fp6_0⟩ := hP6
  have f6_0 : Exa Z T6.heap a1 "com/example/tillwire/tillwire/HttpFraming$BodyReader" := (f5_0).keep Kp6
  have f6_1 : Fld Z T6.heap a1 "com/example/tillwire/tillwire/HttpFraming$BodyReader" "line" "Lcom/example/tillwire/tillwire/HttpFraming$Line;" .null := (f5_1).keep Kp6 (ninS (ne_exa f5_0 A5 (by decide)) nin0)
  have f6_2 : Fld Z T6.heap a1 "com/example/tillwire/tillwire/HttpFraming$BodyReader" "whole" "Z" (.int (0 : Int32)) := (f5_2).keep Kp6 (ninS (ne_exa f5_0 A5 (by decide)) nin0)
  have f6_3 : Fld Z T6.heap a1 "com/example/tillwire/tillwire/HttpFraming$BodyReader" "chunked" "Z" (.int (0 : Int32)) := (f5_3).keep Kp6 (ninS (ne_exa f5_0 A5 (by decide)) nin0)
  have f6_4 : Fld Z T6.heap a1 "com/example/tillwire/tillwire/HttpFraming$BodyReader" "keep" "I" (.int (0 : Int32)) := (f5_4).keep Kp6 (ninS (ne_exa f5_0 A5 (by decide)) nin0)
  have f6_5 : Fld Z T6.heap a1 "com/example/tillwire/tillwire/HttpFraming$BodyReader" "skip" "J" (.long (0 : Int64)) := (f5_5).keep Kp6 (ninS (ne_exa f5_0 A5 (by decide)) nin0)
  have f6_6 : Fld Z T6.heap a1 "com/example/tillwire/tillwire/HttpFraming$BodyReader" "part" "Lcom/example/tillwire/tillwire/HttpFraming$BodyReader$Part;" .null := (f5_6).keep Kp6 (ninS (ne_exa f5_0 A5 (by decide)) nin0)
  have f6_7 : Fld Z T6.heap a1 "com/example/tillwire/tillwire/HttpFraming$BodyReader" "passed" "J" (.long (0 : Int64)) := (f5_7).keep Kp6 (ninS (ne_exa f5_0 A5 (by decide)) nin0)
  have f6_8 : Fld Z T6.heap a1 "com/example/tillwire/tillwire/HttpFraming$BodyReader" "left" "J" (.long (0 : Int64)) := (f5_8).keep Kp6 (ninS (ne_exa f5_0 A5 (by decide)) nin0)
  have f6_9 : Fld Z T6.heap a1 "com/example/tillwire/tillwire/HttpFraming$BodyReader" "skipped" "J" (.long (0 : Int64)) := (f5_9).keep Kp6 (ninS (ne_exa f5_0 A5 (by decide)) nin0)
  have f6_10 : Exa Z T6.heap b2 "java/io/ByteArrayOutputStream" := (f5_10).keep Kp6
  have f6_11 : Unt T6.heap b2 := own_untk f5_11 Kp6 (ninS (ne_exa f5_10 A5 (by decide)) nin0)
  have f6_12 : Fld Z T6.heap b2 "java/io/ByteArrayOutputStream" "buf" "[B" (.ref b3_b1_b2) := (f5_12).keep Kp6 (ninS (ne_exa f5_10 A5 (by decide)) nin0)
  have f6_13 : Fld Z T6.heap b2 "java/io/ByteArrayOutputStream" "count" "I" (.int (0 : Int32)) := (f5_13).keep Kp6 (ninS (ne_exa f5_10 A5 (by decide)) nin0)
  have f6_14 : Exa Z T6.heap b3_b1_b2 "[B" := (f5_14).keep Kp6
  have f6_15 : Arv Z T6.heap b3_b1_b2 k3_k1_k2 .byte (32 : Int32) [] (.int (0 : Int32)) := (f5_15).keep Kp6 (ninS (ne_exa f5_14 A5 (by decide)) nin0)
  have f6_16 : Fld Z T6.heap a1 "com/example/tillwire/tillwire/HttpFraming$BodyReader" "kept" "Ljava/io/ByteArrayOutputStream;" (.ref b2) := (f5_16).keep Kp6 (ninS (ne_exa f5_0 A5 (by decide)) nin0)
  have f6_17 : Exa Z T6.heap b5 "com/example/tillwire/tillwire/HttpFraming$Line" := (A5).keep Kp6
  have O6 := O5.keep Kp6 (allS g_b5 all0)
  have K6 : Keep h0 T6.heap [a1] := K5.trans Kp6 (allS (Or.inr sz_b5) all0)
  obtain ⟨T7, h7, X7, e7, W7, st7⟩ := putF X6 hx hZ hown (host := "") (Or.inl (hw _ (List.mem_of_getElem? (i := 61) rfl))) Via.refl rfl f6_1 f6_0 (Or.inr ⟨(hw _ (List.mem_of_getElem? (i := 62) rfl)), rfl, hnm⟩) (hw _ (List.mem_of_getElem? (i := 3) rfl)) (ty := (.object "com/example/tillwire/tillwire/HttpFraming$Line")) (by decide) rfl rfl (g := (mkF m 23 #[.val (.ref a1), .val (.long q2), .second, .val (.int (0 : Int32)), .val (.long q4), .second, .unset, .unset] [(.ref b5), (.ref a1)])) rfl rfl (hb hby d1_23)
  have fw7 : Fld Z h7 a1 "com/example/tillwire/tillwire/HttpFraming$BodyReader" "line" "Lcom/example/tillwire/tillwire/HttpFraming$Line;" (.ref b5) := (f6_1).same W7
  have f7_0 : Exa Z h7 a1 "com/example/tillwire/tillwire/HttpFraming$BodyReader" := (f6_0).wr W7
  have f7_1 : Fld Z h7 a1 "com/example/tillwire/tillwire/HttpFraming$BodyReader" "whole" "Z" (.int (0 : Int32)) := (f6_2).other W7 (Or.inr (slot_ne (Or.inl (hw _ (List.mem_of_getElem? (i := 64) rfl))) (Or.inr (hw _ (List.mem_of_getElem? (i := 62) rfl))) (by decide) (t := .boolean) (t' := (.object "com/example/tillwire/tillwire/HttpFraming$Line")) (by decide) (by decide)))
  have f7_2 : Fld Z h7 a1 "com/example/tillwire/tillwire/HttpFraming$BodyReader" "chunked" "Z" (.int (0 : Int32)) := (f6_3).other W7 (Or.inr (slot_ne (Or.inr (hw _ (List.mem_of_getElem? (i := 67) rfl))) (Or.inr (hw _ (List.mem_of_getElem? (i := 62) rfl))) (by decide) (t := .boolean) (t' := (.object "com/example/tillwire/tillwire/HttpFraming$Line")) (by decide) (by decide)))
  have f7_3 : Fld Z h7 a1 "com/example/tillwire/tillwire/HttpFraming$BodyReader" "keep" "I" (.int (0 : Int32)) := (f6_4).other W7 (Or.inr (slot_ne (Or.inr (hw _ (List.mem_of_getElem? (i := 69) rfl))) (Or.inr (hw _ (List.mem_of_getElem? (i := 62) rfl))) (by decide) (t := .int) (t' := (.object "com/example/tillwire/tillwire/HttpFraming$Line")) (by decide) (by decide)))
  have f7_4 : Fld Z h7 a1 "com/example/tillwire/tillwire/HttpFraming$BodyReader" "skip" "J" (.long (0 : Int64)) := (f6_5).other W7 (Or.inr (slot_ne (Or.inr (hw _ (List.mem_of_getElem? (i := 71) rfl))) (Or.inr (hw _ (List.mem_of_getElem? (i := 62) rfl))) (by decide) (t := .long) (t' := (.object "com/example/tillwire/tillwire/HttpFraming$Line")) (by decide) (by decide)))
  have f7_5 : Fld Z h7 a1 "com/example/tillwire/tillwire/HttpFraming$BodyReader" "part" "Lcom/example/tillwire/tillwire/HttpFraming$BodyReader$Part;" .null := (f6_6).other W7 (Or.inr (slot_ne (Or.inl (hw _ (List.mem_of_getElem? (i := 77) rfl))) (Or.inr (hw _ (List.mem_of_getElem? (i := 62) rfl))) (by decide) (t := (.object "com/example/tillwire/tillwire/HttpFraming$BodyReader$Part")) (t' := (.object "com/example/tillwire/tillwire/HttpFraming$Line")) (by decide) (by decide)))
  have f7_6 : Fld Z h7 a1 "com/example/tillwire/tillwire/HttpFraming$BodyReader" "passed" "J" (.long (0 : Int64)) := (f6_7).other W7 (Or.inr (slot_ne (Or.inl (hw _ (List.mem_of_getElem? (i := 123) rfl))) (Or.inr (hw _ (List.mem_of_getElem? (i := 62) rfl))) (by decide) (t := .long) (t' := (.object "com/example/tillwire/tillwire/HttpFraming$Line")) (by decide) (by decide)))
  have f7_7 : Fld Z h7 a1 "com/example/tillwire/tillwire/HttpFraming$BodyReader" "left" "J" (.long (0 : Int64)) := (f6_8).other W7 (Or.inr (slot_ne (Or.inl (hw _ (List.mem_of_getElem? (i := 127) rfl))) (Or.inr (hw _ (List.mem_of_getElem? (i := 62) rfl))) (by decide) (t := .long) (t' := (.object "com/example/tillwire/tillwire/HttpFraming$Line")) (by decide) (by decide)))
  have f7_8 : Fld Z h7 a1 "com/example/tillwire/tillwire/HttpFraming$BodyReader" "skipped" "J" (.long (0 : Int64)) := (f6_9).other W7 (Or.inr (slot_ne (Or.inl (hw _ (List.mem_of_getElem? (i := 133) rfl))) (Or.inr (hw _ (List.mem_of_getElem? (i := 62) rfl))) (by decide) (t := .long) (t' := (.object "com/example/tillwire/tillwire/HttpFraming$Line")) (by decide) (by decide)))
  have f7_9 : Exa Z h7 b2 "java/io/ByteArrayOutputStream" := (f6_10).wr W7
  have f7_10 : Unt h7 b2 := Unt.wr W7 f6_11
  have f7_11 : Fld Z h7 b2 "java/io/ByteArrayOutputStream" "buf" "[B" (.ref b3_b1_b2) := (f6_12).other W7 (Or.inl (ne_exa f6_10 f6_0 (by decide)))
  have f7_12 : Fld Z h7 b2 "java/io/ByteArrayOutputStream" "count" "I" (.int (0 : Int32)) := (f6_13).other W7 (Or.inl (ne_exa f6_10 f6_0 (by decide)))
  have f7_13 : Exa Z h7 b3_b1_b2 "[B" := (f6_14).wr W7
  have f7_14 : Arv Z h7 b3_b1_b2 k3_k1_k2 .byte (32 : Int32) [] (.int (0 : Int32)) := (f6_15).other W7 (ne_exa f6_14 f6_0 (by decide))
  have f7_15 : Fld Z h7 a1 "com/example/tillwire/tillwire/HttpFraming$BodyReader" "kept" "Ljava/io/ByteArrayOutputStream;" (.ref b2) := (f6_16).other W7 (Or.inr (slot_ne (Or.inr (hw _ (List.mem_of_getElem? (i := 32) rfl))) (Or.inr (hw _ (List.mem_of_getElem? (i := 62) rfl))) (by decide) (t := (.object "java/io/ByteArrayOutputStream")) (t' := (.object "com/example/tillwire/tillwire/HttpFraming$Line")) (by decide) (by decide)))
  have f7_16 : Exa Z h7 b5 "com/example/tillwire/tillwire/HttpFraming$Line" := (fp6_0).wr W7
  have O7 := O6.wr W7 g_a1
  have N7 := Fr.snoc X7 N6 g_a1
  have K7 : Keep h0 h7 [a1] := K6.wr W7 (Or.inl (List.mem_of_getElem? (i := 0) rfl))
  obtain ⟨T8, h8, X8, e8, W8, st8⟩ := putFN X7 hx hZ hown (hw _ (List.mem_of_getElem? (i := 63) rfl)) Via.refl e7 f7_1 f7_0 (Or.inl (hw _ (List.mem_of_getElem? (i := 64) rfl))) (hw _ (List.mem_of_getElem? (i := 3) rfl)) (ty := .boolean) (v' := (.int (1 : Int32))) (by decide) rfl rfl (g := (mkF m 28 #[.val (.ref a1), .val (.long q2), .second, .val (.int (0 : Int32)), .val (.long q4), .second, .unset, .unset] [(.int (1 : Int32)), (.ref a1)])) rfl rfl (hb hby d1_28)
  have fw8 : Fld Z h8 a1 "com/example/tillwire/tillwire/HttpFraming$BodyReader" "whole" "Z" (.int (1 : Int32)) := (f7_1).same W8
  have f8_0 : Exa Z h8 a1 "com/example/tillwire/tillwire/HttpFraming$BodyReader" := (f7_0).wr W8
  have f8_1 : Fld Z h8 a1 "com/example/tillwire/tillwire/HttpFraming$BodyReader" "chunked" "Z" (.int (0 : Int32)) := (f7_2).other W8 (Or.inr (slot_ne (Or.inr (hw _ (List.mem_of_getElem? (i := 67) rfl))) (Or.inl (hw _ (List.mem_of_getElem? (i := 64) rfl))) (by decide) (t := .boolean) (t' := .boolean) (by decide) (by decide)))
  have f8_2 : Fld Z h8 a1 "com/example/tillwire/tillwire/HttpFraming$BodyReader" "keep" "I" (.int (0 : Int32)) := (f7_3).other W8 (Or.inr (slot_ne (Or.inr (hw _ (List.mem_of_getElem? (i := 69) rfl))) (Or.inl (hw _ (List.mem_of_getElem? (i := 64) rfl))) (by decide) (t := .int) (t' := .boolean) (by decide) (by decide)))
  have f8_3 : Fld Z h8 a1 "com/example/tillwire/tillwire/HttpFraming$BodyReader" "skip" "J" (.long (0 : Int64)) := (f7_4).other W8 (Or.inr (slot_ne (Or.inr (hw _ (List.mem_of_getElem? (i := 71) rfl))) (Or.inl (hw _ (List.mem_of_getElem? (i := 64) rfl))) (by decide) (t := .long) (t' := .boolean) (by decide) (by decide)))
  have f8_4 : Fld Z h8 a1 "com/example/tillwire/tillwire/HttpFraming$BodyReader" "part" "Lcom/example/tillwire/tillwire/HttpFraming$BodyReader$Part;" .null := (f7_5).other W8 (Or.inr (slot_ne (Or.inl (hw _ (List.mem_of_getElem? (i := 77) rfl))) (Or.inl (hw _ (List.mem_of_getElem? (i := 64) rfl))) (by decide) (t := (.object "com/example/tillwire/tillwire/HttpFraming$BodyReader$Part")) (t' := .boolean) (by decide) (by decide)))
  have f8_5 : Fld Z h8 a1 "com/example/tillwire/tillwire/HttpFraming$BodyReader" "passed" "J" (.long (0 : Int64)) := (f7_6).other W8 (Or.inr (slot_ne (Or.inl (hw _ (List.mem_of_getElem? (i := 123) rfl))) (Or.inl (hw _ (List.mem_of_getElem? (i := 64) rfl))) (by decide) (t := .long) (t' := .boolean) (by decide) (by decide)))
  have f8_6 : Fld Z h8 a1 "com/example/tillwire/tillwire/HttpFraming$BodyReader" "left" "J" (.long (0 : Int64)) := (f7_7).other W8 (Or.inr (slot_ne (Or.inl (hw _ (List.mem_of_getElem? (i := 127) rfl))) (Or.inl (hw _ (List.mem_of_getElem? (i := 64) rfl))) (by decide) (t := .long) (t' := .boolean) (by decide) (by decide)))
  have f8_7 : Fld Z h8 a1 "com/example/tillwire/tillwire/HttpFraming$BodyReader" "skipped" "J" (.long (0 : Int64)) := (f7_8).other W8 (Or.inr (slot_ne (Or.inl (hw _ (List.mem_of_getElem? (i := 133) rfl))) (Or.inl (hw _ (List.mem_of_getElem? (i := 64) rfl))) (by decide) (t := .long) (t' := .boolean) (by decide) (by decide)))
  have f8_8 : Exa Z h8 b2 "java/io/ByteArrayOutputStream" := (f7_9).wr W8
  have f8_9 : Unt h8 b2 := Unt.wr W8 f7_10
  have f8_10 : Fld Z h8 b2 "java/io/ByteArrayOutputStream" "buf" "[B" (.ref b3_b1_b2) := (f7_11).other W8 (Or.inl (ne_exa f7_9 f7_0 (by decide)))
  have f8_11 : Fld Z h8 b2 "java/io/ByteArrayOutputStream" "count" "I" (.int (0 : Int32)) := (f7_12).other W8 (Or.inl (ne_exa f7_9 f7_0 (by decide)))
  have f8_12 : Exa Z h8 b3_b1_b2 "[B" := (f7_13).wr W8
  have f8_13 : Arv Z h8 b3_b1_b2 k3_k1_k2 .byte (32 : Int32) [] (.int (0 : Int32)) := (f7_14).other W8 (ne_exa f7_13 f7_0 (by decide))
  have f8_14 : Fld Z h8 a1 "com/example/tillwire/tillwire/HttpFraming$BodyReader" "kept" "Ljava/io/ByteArrayOutputStream;" (.ref b2) := (f7_15).other W8 (Or.inr (slot_ne (Or.inr (hw _ (List.mem_of_getElem? (i := 32) rfl))) (Or.inl (hw _ (List.mem_of_getElem? (i := 64) rfl))) (by decide) (t := (.object "java/io/ByteArrayOutputStream")) (t' := .boolean) (by decide) (by decide)))
  have f8_15 : Exa Z h8 b5 "com/example/tillwire/tillwire/HttpFraming$Line" := (f7_16).wr W8
  have f8_16 : Fld Z h8 a1 "com/example/tillwire/tillwire/HttpFraming$BodyReader" "line" "Lcom/example/tillwire/tillwire/HttpFraming$Line;" (.ref b5) := (fw7).other W8 (Or.inr (slot_ne (Or.inr (hw _ (List.mem_of_getElem? (i := 62) rfl))) (Or.inl (hw _ (List.mem_of_getElem? (i := 64) rfl))) (by decide) (t := (.object "com/example/tillwire/tillwire/HttpFraming$Line")) (t' := .boolean) (by decide) (by decide)))
  have O8 := O7.wr W8 g_a1
  have N8 := Fr.snoc X8 N7 g_a1
  have K8 : Keep h0 h8 [a1] := K7.wr W8 (Or.inl (List.mem_of_getElem? (i := 0) rfl))
  obtain ⟨T9, h9, X9, e9, W9, st9⟩ := putFN X8 hx hZ hown (hw _ (List.mem_of_getElem? (i := 66) rfl)) Via.refl e8 f8_1 f8_0 (Or.inr ⟨(hw _ (List.mem_of_getElem? (i := 67) rfl)), rfl, hnm⟩) (hw _ (List.mem_of_getElem? (i := 3) rfl)) (ty := .boolean) (v' := (.int (0 : Int32))) (by decide) rfl rfl (g := (mkF m 45 #[.val (.ref a1), .val (.long q2), .second, .val (.int (0 : Int32)), .val (.long q4), .second, .unset, .unset] [(.int (0 : Int32)), (.ref a1)])) rfl rfl (hb hby d1_45)
  have fw9 : Fld Z h9 a1 "com/example/tillwire/tillwire/HttpFraming$BodyReader" "chunked" "Z" (.int (0 : Int32)) := (f8_1).same W9
  have f9_0 : Exa Z h9 a1 "com/example/tillwire/tillwire/HttpFraming$BodyReader" := (f8_0).wr W9
  have f9_1 : Fld Z h9 a1 "com/example/tillwire/tillwire/HttpFraming$BodyReader" "keep" "I" (.int (0 : Int32)) := (f8_2).other W9 (Or.inr (slot_ne (Or.inr (hw _ (List.mem_of_getElem? (i := 69) rfl))) (Or.inr (hw _ (List.mem_of_getElem? (i := 67) rfl))) (by decide) (t := .int) (t' := .boolean) (by decide) (by decide)))
  have f9_2 : Fld Z h9 a1 "com/example/tillwire/tillwire/HttpFraming$BodyReader" "skip" "J" (.long (0 : Int64)) := (f8_3).other W9 (Or.inr (slot_ne (Or.inr (hw _ (List.mem_of_getElem? (i := 71) rfl))) (Or.inr (hw _ (List.mem_of_getElem? (i := 67) rfl))) (by decide) (t := .long) (t' := .boolean) (by decide) (by decide)))
  have f9_3 : Fld Z h9 a1 "com/example/tillwire/tillwire/HttpFraming$BodyReader" "part" "Lcom/example/tillwire/tillwire/HttpFraming$BodyReader$Part;" .null := (f8_4).other W9 (Or.inr (slot_ne (Or.inl (hw _ (List.mem_of_getElem? (i := 77) rfl))) (Or.inr (hw _ (List.mem_of_getElem? (i := 67) rfl))) (by decide) (t := (.object "com/example/tillwire/tillwire/HttpFraming$BodyReader$Part")) (t' := .boolean) (by decide) (by decide)))
  have f9_4 : Fld Z h9 a1 "com/example/tillwire/tillwire/HttpFraming$BodyReader" "passed" "J" (.long (0 : Int64)) := (f8_5).other W9 (Or.inr (slot_ne (Or.inl (hw _ (List.mem_of_getElem? (i := 123) rfl))) (Or.inr (hw _ (List.mem_of_getElem? (i := 67) rfl))) (by decide) (t := .long) (t' := .boolean) (by decide) (by decide)))
  have f9_5 : Fld Z h9 a1 "com/example/tillwire/tillwire/HttpFraming$BodyReader" "left" "J" (.long (0 : Int64)) := (f8_6).other W9 (Or.inr (slot_ne (Or.inl (hw _ (List.mem_of_getElem? (i := 127) rfl))) (Or.inr (hw _ (List.mem_of_getElem? (i := 67) rfl))) (by decide) (t := .long) (t' := .boolean) (by decide) (by decide)))
  have f9_6 : Fld Z h9 a1 "com/example/tillwire/tillwire/HttpFraming$BodyReader" "skipped" "J" (.long (0 : Int64)) := (f8_7).other W9 (Or.inr (slot_ne (Or.inl (hw _ (List.mem_of_getElem? (i := 133) rfl))) (Or.inr (hw _ (List.mem_of_getElem? (i := 67) rfl))) (by decide) (t := .long) (t' := .boolean) (by decide) (by decide)))
  have f9_7 : Exa Z h9 b2 "java/io/ByteArrayOutputStream" := (f8_8).wr W9
  have f9_8 : Unt h9 b2 := Unt.wr W9 f8_9
  have f9_9 : Fld Z h9 b2 "java/io/ByteArrayOutputStream" "buf" "[B" (.ref b3_b1_b2) := (f8_10).other W9 (Or.inl (ne_exa f8_8 f8_0 (by decide)))
  have f9_10 : Fld Z h9 b2 "java/io/ByteArrayOutputStream" "count" "I" (.int (0 : Int32)) := (f8_11).other W9 (Or.inl (ne_exa f8_8 f8_0 (by decide)))
  have f9_11 : Exa Z h9 b3_b1_b2 "[B" := (f8_12).wr W9
  have f9_12 : Arv Z h9 b3_b1_b2 k3_k1_k2 .byte (32 : Int32) [] (.int (0 : Int32)) := (f8_13).other W9 (ne_exa f8_12 f8_0 (by decide))
  have f9_13 : Fld Z h9 a1 "com/example/tillwire/tillwire/HttpFraming$BodyReader" "kept" "Ljava/io/ByteArrayOutputStream;" (.ref b2) := (f8_14).other W9 (Or.inr (slot_ne (Or.inr (hw _ (List.mem_of_getElem? (i := 32) rfl))) (Or.inr (hw _ (List.mem_of_getElem? (i := 67) rfl))) (by decide) (t := (.object "java/io/ByteArrayOutputStream")) (t' := .boolean) (by decide) (by decide)))
  have f9_14 : Exa Z h9 b5 "com/example/tillwire/tillwire/HttpFraming$Line" := (f8_15).wr W9
  have f9_15 : Fld Z h9 a1 "com/example/tillwire/tillwire/HttpFraming$BodyReader" "line" "Lcom/example/tillwire/tillwire/HttpFraming$Line;" (.ref b5) := (f8_16).other W9 (Or.inr (slot_ne (Or.inr (hw _ (List.mem_of_getElem? (i := 62) rfl))) (Or.inr (hw _ (List.mem_of_getElem? (i := 67) rfl))) (by decide) (t := (.object "com/example/tillwire/tillwire/HttpFraming$Line")) (t' := .boolean) (by decide) (by decide)))
  have f9_16 : Fld Z h9 a1 "com/example/tillwire/tillwire/HttpFraming$BodyReader" "whole" "Z" (.int (1 : Int32)) := (fw8).other W9 (Or.inr (slot_ne (Or.inl (hw _ (List.mem_of_getElem? (i := 64) rfl))) (Or.inr (hw _ (List.mem_of_getElem? (i := 67) rfl))) (by decide) (t := .boolean) (t' := .boolean) (by decide) (by decide)))
  have O9 := O8.wr W9 g_a1
  have N9 := Fr.snoc X9 N8 g_a1
  have K9 : Keep h0 h9 [a1] := K8.wr W9 (Or.inl (List.mem_of_getElem? (i := 0) rfl))
  obtain ⟨T10, h10, X10, e10, W10, st10⟩ := putF X9 hx hZ hown (host := "") (Or.inl (hw _ (List.mem_of_getElem? (i := 68) rfl))) Via.refl e9 f9_1 f9_0 (Or.inr ⟨(hw _ (List.mem_of_getElem? (i := 69) rfl)), rfl, hnm⟩) (hw _ (List.mem_of_getElem? (i := 3) rfl)) (ty := .int) (by decide) rfl rfl (g := (mkF m 50 #[.val (.ref a1), .val (.long q2), .second, .val (.int (0 : Int32)), .val (.long q4), .second, .unset, .unset] [(.int (0 : Int32)), (.ref a1)])) rfl rfl (hb hby d1_50)
  have fw10 : Fld Z h10 a1 "com/example/tillwire/tillwire/HttpFraming$BodyReader" "keep" "I" (.int (0 : Int32)) := (f9_1).same W10
  have f10_0 : Exa Z h10 a1 "com/example/tillwire/tillwire/HttpFraming$BodyReader" := (f9_0).wr W10
  have f10_1 : Fld Z h10 a1 "com/example/tillwire/tillwire/HttpFraming$BodyReader" "skip" "J" (.long (0 : Int64)) := (f9_2).other W10 (Or.inr (slot_ne (Or.inr (hw _ (List.mem_of_getElem? (i := 71) rfl))) (Or.inr (hw _ (List.mem_of_getElem? (i := 69) rfl))) (by decide) (t := .long) (t' := .int) (by decide) (by decide)))
  have f10_2 : Fld Z h10 a1 "com/example/tillwire/tillwire/HttpFraming$BodyReader" "part" "Lcom/example/tillwire/tillwire/HttpFraming$BodyReader$Part;" .null := (f9_3).other W10 (Or.inr (slot_ne (Or.inl (hw _ (List.mem_of_getElem? (i := 77) rfl))) (Or.inr (hw _ (List.mem_of_getElem? (i := 69) rfl))) (by decide) (t := (.object "com/example/tillwire/tillwire/HttpFraming$BodyReader$Part")) (t' := .int) (by decide) (by decide)))
  have f10_3 : Fld Z h10 a1 "com/example/tillwire/tillwire/HttpFraming$BodyReader" "passed" "J" (.long (0 : Int64)) := (f9_4).other W10 (Or.inr (slot_ne (Or.inl (hw _ (List.mem_of_getElem? (i := 123) rfl))) (Or.inr (hw _ (List.mem_of_getElem? (i := 69) rfl))) (by decide) (t := .long) (t' := .int) (by decide) (by decide)))
  have f10_4 : Fld Z h10 a1 "com/example/tillwire/tillwire/HttpFraming$BodyReader" "left" "J" (.long (0 : Int64)) := (f9_5).other W10 (Or.inr (slot_ne (Or.inl (hw _ (List.mem_of_getElem? (i := 127) rfl))) (Or.inr (hw _ (List.mem_of_getElem? (i := 69) rfl))) (by decide) (t := .long) (t' := .int) (by decide) (by decide)))
  have f10_5 : Fld Z h10 a1 "com/example/tillwire/tillwire/HttpFraming$BodyReader" "skipped" "J" (.long (0 : Int64)) := (f9_6).other W10 (Or.inr (slot_ne (Or.inl (hw _ (List.mem_of_getElem? (i := 133) rfl))) (Or.inr (hw _ (List.mem_of_getElem? (i := 69) rfl))) (by decide) (t := .long) (t' := .int) (by decide) (by decide)))
  have f10_6 : Exa Z h10 b2 "java/io/ByteArrayOutputStream" := (f9_7).wr W10
  have f10_7 : Unt h10 b2 := Unt.wr W10 f9_8
  have f10_8 : Fld Z h10 b2 "java/io/ByteArrayOutputStream" "buf" "[B" (.ref b3_b1_b2) := (f9_9).other W10 (Or.inl (ne_exa f9_7 f9_0 (by decide)))
  have f10_9 : Fld Z h10 b2 "java/io/ByteArrayOutputStream" "count" "I" (.int (0 : Int32)) := (f9_10).other W10 (Or.inl (ne_exa f9_7 f9_0 (by decide)))
  have f10_10 : Exa Z h10 b3_b1_b2 "[B" := (f9_11).wr W10
  have f10_11 : Arv Z h10 b3_b1_b2 k3_k1_k2 .byte (32 : Int32) [] (.int (0 : Int32)) := (f9_12).other W10 (ne_exa f9_11 f9_0 (by decide))
  have f10_12 : Fld Z h10 a1 "com/example/tillwire/tillwire/HttpFraming$BodyReader" "kept" "Ljava/io/ByteArrayOutputStream;" (.ref b2) := (f9_13).other W10 (Or.inr (slot_ne (Or.inr (hw _ (List.mem_of_getElem? (i := 32) rfl))) (Or.inr (hw _ (List.mem_of_getElem? (i := 69) rfl))) (by decide) (t := (.object "java/io/ByteArrayOutputStream")) (t' := .int) (by decide) (by decide)))
  have f10_13 : Exa Z h10 b5 "com/example/tillwire/tillwire/HttpFraming$Line" := (f9_14).wr W10
  have f10_14 : Fld Z h10 a1 "com/example/tillwire/tillwire/HttpFraming$BodyReader" "line" "Lcom/example/tillwire/tillwire/HttpFraming$Line;" (.ref b5) := (f9_15).other W10 (Or.inr (slot_ne (Or.inr (hw _ (List.mem_of_getElem? (i := 62) rfl))) (Or.inr (hw _ (List.mem_of_getElem? (i := 69) rfl))) (by decide) (t := (.object "com/example/tillwire/tillwire/HttpFraming$Line")) (t' := .int) (by decide) (by decide)))
  have f10_15 : Fld Z h10 a1 "com/example/tillwire/tillwire/HttpFraming$BodyReader" "whole" "Z" (.int (1 : Int32)) := (f9_16).other W10 (Or.inr (slot_ne (Or.inl (hw _ (List.mem_of_getElem? (i := 64) rfl))) (Or.inr (hw _ (List.mem_of_getElem? (i := 69) rfl))) (by decide) (t := .boolean) (t' := .int) (by decide) (by decide)))
  have f10_16 : Fld Z h10 a1 "com/example/tillwire/tillwire/HttpFraming$BodyReader" "chunked" "Z" (.int (0 : Int32)) := (fw9).other W10 (Or.inr (slot_ne (Or.inr (hw _ (List.mem_of_getElem? (i := 67) rfl))) (Or.inr (hw _ (List.mem_of_getElem? (i := 69) rfl))) (by decide) (t := .boolean) (t' := .int) (by decide) (by decide)))
  have O10 := O9.wr W10 g_a1
  have N10 := Fr.snoc X10 N9 g_a1
  have K10 : Keep h0 h10 [a1] := K9.wr W10 (Or.inl (List.mem_of_getElem? (i := 0) rfl))
  obtain ⟨T11, h11, X11, e11, W11, st11⟩ := putF X10 hx hZ hown (host := "") (Or.inl (hw _ (List.mem_of_getElem? (i := 70) rfl))) Via.refl e10 f10_1 f10_0 (Or.inr ⟨(hw _ (List.mem_of_getElem? (i := 71) rfl)), rfl, hnm⟩) (hw _ (List.mem_of_getElem? (i := 3) rfl)) (ty := .long) (by decide) rfl rfl (g := (mkF m 56 #[.val (.ref a1), .val (.long q2), .second, .val (.int (0 : Int32)), .val (.long q4), .second, .unset, .unset] [(.long q4), (.ref a1)])) rfl rfl (hb hby d1_56)
  have fw11 : Fld Z h11 a1 "com/example/tillwire/tillwire/HttpFraming$BodyReader" "skip" "J" (.long q4) := (f10_1).same W11
  have f11_0 : Exa Z h11 a1 "com/example/tillwire/tillwire/HttpFraming$BodyReader" := (f10_0).wr W11
  have f11_1 : Fld Z h11 a1 "com/example/tillwire/tillwire/HttpFraming$BodyReader" "part" "Lcom/example/tillwire/tillwire/HttpFraming$BodyReader$Part;" .null := (f10_2).other W11 (Or.inr (slot_ne (Or.inl (hw _ (List.mem_of_getElem? (i := 77) rfl))) (Or.inr (hw _ (List.mem_of_getElem? (i := 71) rfl))) (by decide) (t := (.object "com/example/tillwire/tillwire/HttpFraming$BodyReader$Part")) (t' := .long) (by decide) (by decide)))
  have f11_2 : Fld Z h11 a1 "com/example/tillwire/tillwire/HttpFraming$BodyReader" "passed" "J" (.long (0 : Int64)) := (f10_3).other W11 (Or.inr (slot_ne (Or.inl (hw _ (List.mem_of_getElem? (i := 123) rfl))) (Or.inr (hw _ (List.mem_of_getElem? (i := 71) rfl))) (by decide) (t := .long) (t' := .long) (by decide) (by decide)))
  have f11_3 : Fld Z h11 a1 "com/example/tillwire/tillwire/HttpFraming$BodyReader" "left" "J" (.long (0 : Int64)) := (f10_4).other W11 (Or.inr (slot_ne (Or.inl (hw _ (List.mem_of_getElem? (i := 127) rfl))) (Or.inr (hw _ (List.mem_of_getElem? (i := 71) rfl))) (by decide) (t := .long) (t' := .long) (by decide) (by decide)))
  have f11_4 : Fld Z h11 a1 "com/example/tillwire/tillwire/HttpFraming$BodyReader" "skipped" "J" (.long (0 : Int64)) := (f10_5).other W11 (Or.inr (slot_ne (Or.inl (hw _ (List.mem_of_getElem? (i := 133) rfl))) (Or.inr (hw _ (List.mem_of_getElem? (i := 71) rfl))) (by decide) (t := .long) (t' := .long) (by decide) (by decide)))
  have f11_5 : Exa Z h11 b2 "java/io/ByteArrayOutputStream" := (f10_6).wr W11
  have f11_6 : Unt h11 b2 := Unt.wr W11 f10_7
  have f11_7 : Fld Z h11 b2 "java/io/ByteArrayOutputStream" "buf" "[B" (.ref b3_b1_b2) := (f10_8).other W11 (Or.inl (ne_exa f10_6 f10_0 (by decide)))
  have f11_8 : Fld Z h11 b2 "java/io/ByteArrayOutputStream" "count" "I" (.int (0 : Int32)) := (f10_9).other W11 (Or.inl (ne_exa f10_6 f10_0 (by decide)))
  have f11_9 : Exa Z h11 b3_b1_b2 "[B" := (f10_10).wr W11
  have f11_10 : Arv Z h11 b3_b1_b2 k3_k1_k2 .byte (32 : Int32) [] (.int (0 : Int32)) := (f10_11).other W11 (ne_exa f10_10 f10_0 (by decide))
  have f11_11 : Fld Z h11 a1 "com/example/tillwire/tillwire/HttpFraming$BodyReader" "kept" "Ljava/io/ByteArrayOutputStream;" (.ref b2) := (f10_12).other W11 (Or.inr (slot_ne (Or.inr (hw _ (List.mem_of_getElem? (i := 32) rfl))) (Or.inr (hw _ (List.mem_of_getElem? (i := 71) rfl))) (by decide) (t := (.object "java/io/ByteArrayOutputStream")) (t' := .long) (by decide) (by decide)))
  have f11_12 : Exa Z h11 b5 "com/example/tillwire/tillwire/HttpFraming$Line" := (f10_13).wr W11
  have f11_13 : Fld Z h11 a1 "com/example/tillwire/tillwire/HttpFraming$BodyReader" "line" "Lcom/example/tillwire/tillwire/HttpFraming$Line;" (.ref b5) := (f10_14).other W11 (Or.inr (slot_ne (Or.inr (hw _ (List.mem_of_getElem? (i := 62) rfl))) (Or.inr (hw _ (List.mem_of_getElem? (i := 71) rfl))) (by decide) (t := (.object "com/example/tillwire/tillwire/HttpFraming$Line")) (t' := .long) (by decide) (by decide)))
  have f11_14 : Fld Z h11 a1 "com/example/tillwire/tillwire/HttpFraming$BodyReader" "whole" "Z" (.int (1 : Int32)) := (f10_15).other W11 (Or.inr (slot_ne (Or.inl (hw _ (List.mem_of_getElem? (i := 64) rfl))) (Or.inr (hw _ (List.mem_of_getElem? (i := 71) rfl))) (by decide) (t := .boolean) (t' := .long) (by decide) (by decide)))
  have f11_15 : Fld Z h11 a1 "com/example/tillwire/tillwire/HttpFraming$BodyReader" "chunked" "Z" (.int (0 : Int32)) := (f10_16).other W11 (Or.inr (slot_ne (Or.inr (hw _ (List.mem_of_getElem? (i := 67) rfl))) (Or.inr (hw _ (List.mem_of_getElem? (i := 71) rfl))) (by decide) (t := .boolean) (t' := .long) (by decide) (by decide)))
  have f11_16 : Fld Z h11 a1 "com/example/tillwire/tillwire/HttpFraming$BodyReader" "keep" "I" (.int (0 : Int32)) := (fw10).other W11 (Or.inr (slot_ne (Or.inr (hw _ (List.mem_of_getElem? (i := 69) rfl))) (Or.inr (hw _ (List.mem_of_getElem? (i := 71) rfl))) (by decide) (t := .int) (t' := .long) (by decide) (by decide)))
  have O11 := O10.wr W11 g_a1
  have N11 := Fr.snoc X11 N10 g_a1
  have K11 : Keep h0 h11 [a1] := K10.wr W11 (Or.inl (List.mem_of_getElem? (i := 0) rfl))
  obtain ⟨T12, X12, e12, st12⟩ := getF X11 hx hZ hown (host := "") (Or.inl (hw _ (List.mem_of_getElem? (i := 66) rfl))) Via.refl e11 f11_15 (g := (mkF m 60 #[.val (.ref a1), .val (.long q2), .second, .val (.int (0 : Int32)), .val (.long q4), .second, .unset, .unset] [(.ref a1)])) rfl rfl (hb hby d1_60)
  obtain ⟨_, _, ⟨T13, L13, k13, n13⟩, -, X13, ⟨Lc13, hQ13, l13, y13, z13⟩, st13⟩ := Jvm.LawKit.callS X12 hx (y := (⟨"java/lang/Math", "min", "(JJ)J"⟩ : MethodName)) hown (mvT hZ (hw _ (List.mem_of_getElem? (i := 119) rfl))) (mvT hZ (hw _ (List.mem_of_getElem? (i := 120) rfl))) (mvT hZ (hw _ (List.mem_of_getElem? (i := 113) rfl))) (mvT hZ (hw _ (List.mem_of_getElem? (i := 121) rfl))) (by decide) (backOf (W := 0) (rm_min2 l Z a0 hw [] W q2 h11 n0 O11 xm) hZ (hw _ (List.mem_of_getElem? (i := 121) rfl)) (hw _ (List.mem_of_getElem? (i := 113) rfl)) (by decide) (by decide)) (g := (mkF m 100 #[.val (.ref a1), .val (.long q2), .second, .val (.int (0 : Int32)), .val (.long q4), .second, .unset, .unset] [(.long (0 : Int64)), (.long q2)])) rfl (by rw [hml]; rfl) (argsL := [(.long q2), (.long (0 : Int64))]) (rest := []) (lenOf pd_2 rfl) rfl (by show 2 * 0 + _ ≤ _; exact Nat.le_of_eq rfl) (hb hby d1_100) (fun _ _ => ⟨rfl, e12, (by decide : 5 + 0 ≤ _), (by decide : 56 + 0 ≤ _)⟩)
  dsimp only [Pt.U, Pt.locs, Pt.cells, Pt.slots] at X13 l13 y13 z13 st13 hQ13
  subst l13 y13 z13
  obtain ⟨rfl, N13q, e13⟩ := hQ13
  have N13 := Fr.app N11 N13q
  obtain ⟨T14, h14, X14, e14, W14, st14⟩ := putF X13 hx hZ hown (host := "") (Or.inl (hw _ (List.mem_of_getElem? (i := 122) rfl))) Via.refl e13 f11_2 f11_0 (Or.inl (hw _ (List.mem_of_getElem? (i := 123) rfl))) (hw _ (List.mem_of_getElem? (i := 3) rfl)) (ty := .long) (by decide) rfl rfl (g := (mkF m 110 #[.val (.ref a1), .val (.long q2), .second, .val (.int (0 : Int32)), .val (.long q4), .second, .val (.long (0 : Int64)), .second] [(.long (q2 - (0 : Int64))), (.ref a1)])) rfl rfl (hb hby d1_110)
  have fw14 : Fld Z h14 a1 "com/example/tillwire/tillwire/HttpFraming$BodyReader" "passed" "J" (.long (q2 - (0 : Int64))) := (f11_2).same W14
  have f14_0 : Exa Z h14 a1 "com/example/tillwire/tillwire/HttpFraming$BodyReader" := (f11_0).wr W14
  have f14_1 : Fld Z h14 a1 "com/example/tillwire/tillwire/HttpFraming$BodyReader" "part" "Lcom/example/tillwire/tillwire/HttpFraming$BodyReader$Part;" .null := (f11_1).other W14 (Or.inr (slot_ne (Or.inl (hw _ (List.mem_of_getElem? (i := 77) rfl))) (Or.inl (hw _ (List.mem_of_getElem? (i := 123) rfl))) (by decide) (t := (.object "com/example/tillwire/tillwire/HttpFraming$BodyReader$Part")) (t' := .long) (by decide) (by decide)))
  have f14_2 : Fld Z h14 a1 "com/example/tillwire/tillwire/HttpFraming$BodyReader" "left" "J" (.long (0 : Int64)) := (f11_3).other W14 (Or.inr (slot_ne (Or.inl (hw _ (List.mem_of_getElem? (i := 127) rfl))) (Or.inl (hw _ (List.mem_of_getElem? (i := 123) rfl))) (by decide) (t := .long) (t' := .long) (by decide) (by decide)))
  have f14_3 : Fld Z h14 a1 "com/example/tillwire/tillwire/HttpFraming$BodyReader" "skipped" "J" (.long (0 : Int64)) := (f11_4).other W14 (Or.inr (slot_ne (Or.inl (hw _ (List.mem_of_getElem? (i := 133) rfl))) (Or.inl (hw _ (List.mem_of_getElem? (i := 123) rfl))) (by decide) (t := .long) (t' := .long) (by decide) (by decide)))
  have f14_4 : Exa Z h14 b2 "java/io/ByteArrayOutputStream" := (f11_5).wr W14
  have f14_5 : Unt h14 b2 := Unt.wr W14 f11_6
  have f14_6 : Fld Z h14 b2 "java/io/ByteArrayOutputStream" "buf" "[B" (.ref b3_b1_b2) := (f11_7).other W14 (Or.inl (ne_exa f11_5 f11_0 (by decide)))
  have f14_7 : Fld Z h14 b2 "java/io/ByteArrayOutputStream" "count" "I" (.int (0 : Int32)) := (f11_8).other W14 (Or.inl (ne_exa f11_5 f11_0 (by decide)))
  have f14_8 : Exa Z h14 b3_b1_b2 "[B" := (f11_9).wr W14
  have f14_9 : Arv Z h14 b3_b1_b2 k3_k1_k2 .byte (32 : Int32) [] (.int (0 : Int32)) := (f11_10).other W14 (ne_exa f11_9 f11_0 (by decide))
  have f14_10 : Fld Z h14 a1 "com/example/tillwire/tillwire/HttpFraming$BodyReader" "kept" "Ljava/io/ByteArrayOutputStream;" (.ref b2) := (f11_11).other W14 (Or.inr (slot_ne (Or.inr (hw _ (List.mem_of_getElem? (i := 32) rfl))) (Or.inl (hw _ (List.mem_of_getElem? (i := 123) rfl))) (by decide) (t := (.object "java/io/ByteArrayOutputStream")) (t' := .long) (by decide) (by decide)))
  have f14_11 : Exa Z h14 b5 "com/example/tillwire/tillwire/HttpFraming$Line" := (f11_12).wr W14
  have f14_12 : Fld Z h14 a1 "com/example/tillwire/tillwire/HttpFraming$BodyReader" "line" "Lcom/example/tillwire/tillwire/HttpFraming$Line;" (.ref b5) := (f11_13).other W14 (Or.inr (slot_ne (Or.inr (hw _ (List.mem_of_getElem? (i := 62) rfl))) (Or.inl (hw _ (List.mem_of_getElem? (i := 123) rfl))) (by decide) (t := (.object "com/example/tillwire/tillwire/HttpFraming$Line")) (t' := .long) (by decide) (by decide)))
  have f14_13 : Fld Z h14 a1 "com/example/tillwire/tillwire/HttpFraming$BodyReader" "whole" "Z" (.int (1 : Int32)) := (f11_14).other W14 (Or.inr (slot_ne (Or.inl (hw _ (List.mem_of_getElem? (i := 64) rfl))) (Or.inl (hw _ (List.mem_of_getElem? (i := 123) rfl))) (by decide) (t := .boolean) (t' := .long) (by decide) (by decide)))
  have f14_14 : Fld Z h14 a1 "com/example/tillwire/tillwire/HttpFraming$BodyReader" "chunked" "Z" (.int (0 : Int32)) := (f11_15).other W14 (Or.inr (slot_ne (Or.inr (hw _ (List.mem_of_getElem? (i := 67) rfl))) (Or.inl (hw _ (List.mem_of_getElem? (i := 123) rfl))) (by decide) (t := .boolean) (t' := .long) (by decide) (by decide)))
  have f14_15 : Fld Z h14 a1 "com/example/tillwire/tillwire/HttpFraming$BodyReader" "keep" "I" (.int (0 : Int32)) := (f11_16).other W14 (Or.inr (slot_ne (Or.inr (hw _ (List.mem_of_getElem? (i := 69) rfl))) (Or.inl (hw _ (List.mem_of_getElem? (i := 123) rfl))) (by decide) (t := .int) (t' := .long) (by decide) (by decide)))
  have f14_16 : Fld Z h14 a1 "com/example/tillwire/tillwire/HttpFraming$BodyReader" "skip" "J" (.long q4) := (fw11).other W14 (Or.inr (slot_ne (Or.inr (hw _ (List.mem_of_getElem? (i := 71) rfl))) (Or.inl (hw _ (List.mem_of_getElem? (i := 123) rfl))) (by decide) (t := .long) (t' := .long) (by decide) (by decide)))
  have O14 := O11.wr W14 g_a1
  have N14 := Fr.snoc X14 N13 g_a1
  have K14 : Keep h0 h14 [a1] := K11.wr W14 (Or.inl (List.mem_of_getElem? (i := 0) rfl))
  obtain ⟨T15, X15, e15, st15⟩ := getS2 X14 hx hZ hown (host := "") (Or.inl (hw _ (List.mem_of_getElem? (i := 124) rfl))) Via.refl e14 (S_n4.ext O14.2) (g := (mkF m 114 #[.val (.ref a1), .val (.long q2), .second, .val (.int (0 : Int32)), .val (.long q4), .second, .val (.long (0 : Int64)), .second] [(.ref a1)])) rfl (hb hby d1_114)
  obtain ⟨T16, h16, X16, e16, W16, st16⟩ := putF X15 hx hZ hown (host := "") (Or.inl (hw _ (List.mem_of_getElem? (i := 76) rfl))) Via.refl e15 f14_1 f14_0 (Or.inl (hw _ (List.mem_of_getElem? (i := 77) rfl))) (hw _ (List.mem_of_getElem? (i := 3) rfl)) (ty := (.object "com/example/tillwire/tillwire/HttpFraming$BodyReader$Part")) (by decide) rfl rfl (g := (mkF m 117 #[.val (.ref a1), .val (.long q2), .second, .val (.int (0 : Int32)), .val (.long q4), .second, .val (.long (0 : Int64)), .second] [(.ref w_n4), (.ref a1)])) rfl rfl (hb hby d1_117)
  have fw16 : Fld Z h16 a1 "com/example/tillwire/tillwire/HttpFraming$BodyReader" "part" "Lcom/example/tillwire/tillwire/HttpFraming$BodyReader$Part;" (.ref w_n4) := (f14_1).same W16
  have f16_0 : Exa Z h16 a1 "com/example/tillwire/tillwire/HttpFraming$BodyReader" := (f14_0).wr W16
  have f16_1 : Fld Z h16 a1 "com/example/tillwire/tillwire/HttpFraming$BodyReader" "left" "J" (.long (0 : Int64)) := (f14_2).other W16 (Or.inr (slot_ne (Or.inl (hw _ (List.mem_of_getElem? (i := 127) rfl))) (Or.inl (hw _ (List.mem_of_getElem? (i := 77) rfl))) (by decide) (t := .long) (t' := (.object "com/example/tillwire/tillwire/HttpFraming$BodyReader$Part")) (by decide) (by decide)))
  have f16_2 : Fld Z h16 a1 "com/example/tillwire/tillwire/HttpFraming$BodyReader" "skipped" "J" (.long (0 : Int64)) := (f14_3).other W16 (Or.inr (slot_ne (Or.inl (hw _ (List.mem_of_getElem? (i := 133) rfl))) (Or.inl (hw _ (List.mem_of_getElem? (i := 77) rfl))) (by decide) (t := .long) (t' := (.object "com/example/tillwire/tillwire/HttpFraming$BodyReader$Part")) (by decide) (by decide)))
  have f16_3 : Exa Z h16 b2 "java/io/ByteArrayOutputStream" := (f14_4).wr W16
  have f16_4 : Unt h16 b2 := Unt.wr W16 f14_5
  have f16_5 : Fld Z h16 b2 "java/io/ByteArrayOutputStream" "buf" "[B" (.ref b3_b1_b2) := (f14_6).other W16 (Or.inl (ne_exa f14_4 f14_0 (by decide)))
  have f16_6 : Fld Z h16 b2 "java/io/ByteArrayOutputStream" "count" "I" (.int (0 : Int32)) := (f14_7).other W16 (Or.inl (ne_exa f14_4 f14_0 (by decide)))
  have f16_7 : Exa Z h16 b3_b1_b2 "[B" := (f14_8).wr W16
  have f16_8 : Arv Z h16 b3_b1_b2 k3_k1_k2 .byte (32 : Int32) [] (.int (0 : Int32)) := (f14_9).other W16 (ne_exa f14_8 f14_0 (by decide))
  have f16_9 : Fld Z h16 a1 "com/example/tillwire/tillwire/HttpFraming$BodyReader" "kept" "Ljava/io/ByteArrayOutputStream;" (.ref b2) := (f14_10).other W16 (Or.inr (slot_ne (Or.inr (hw _ (List.mem_of_getElem? (i := 32) rfl))) (Or.inl (hw _ (List.mem_of_getElem? (i := 77) rfl))) (by decide) (t := (.object "java/io/ByteArrayOutputStream")) (t' := (.object "com/example/tillwire/tillwire/HttpFraming$BodyReader$Part")) (by decide) (by decide)))
  have f16_10 : Exa Z h16 b5 "com/example/tillwire/tillwire/HttpFraming$Line" := (f14_11).wr W16
  have f16_11 : Fld Z h16 a1 "com/example/tillwire/tillwire/HttpFraming$BodyReader" "line" "Lcom/example/tillwire/tillwire/HttpFraming$Line;" (.ref b5) := (f14_12).other W16 (Or.inr (slot_ne (Or.inr (hw _ (List.mem_of_getElem? (i := 62) rfl))) (Or.inl (hw _ (List.mem_of_getElem? (i := 77) rfl))) (by decide) (t := (.object "com/example/tillwire/tillwire/HttpFraming$Line")) (t' := (.object "com/example/tillwire/tillwire/HttpFraming$BodyReader$Part")) (by decide) (by decide)))
  have f16_12 : Fld Z h16 a1 "com/example/tillwire/tillwire/HttpFraming$BodyReader" "whole" "Z" (.int (1 : Int32)) := (f14_13).other W16 (Or.inr (slot_ne (Or.inl (hw _ (List.mem_of_getElem? (i := 64) rfl))) (Or.inl (hw _ (List.mem_of_getElem? (i := 77) rfl))) (by decide) (t := .boolean) (t' := (.object "com/example/tillwire/tillwire/HttpFraming$BodyReader$Part")) (by decide) (by decide)))
  have f16_13 : Fld Z h16 a1 "com/example/tillwire/tillwire/HttpFraming$BodyReader" "chunked" "Z" (.int (0 : Int32)) := (f14_14).other W16 (Or.inr (slot_ne (Or.inr (hw _ (List.mem_of_getElem? (i := 67) rfl))) (Or.inl (hw _ (List.mem_of_getElem? (i := 77) rfl))) (by decide) (t := .boolean) (t' := (.object "com/example/tillwire/tillwire/HttpFraming$BodyReader$Part")) (by decide) (by decide)))
  have f16_14 : Fld Z h16 a1 "com/example/tillwire/tillwire/HttpFraming$BodyReader" "keep" "I" (.int (0 : Int32)) := (f14_15).other W16 (Or.inr (slot_ne (Or.inr (hw _ (List.mem_of_getElem? (i := 69) rfl))) (Or.inl (hw _ (List.mem_of_getElem? (i := 77) rfl))) (by decide) (t := .int) (t' := (.object "com/example/tillwire/tillwire/HttpFraming$BodyReader$Part")) (by decide) (by decide)))
  have f16_15 : Fld Z h16 a1 "com/example/tillwire/tillwire/HttpFraming$BodyReader" "skip" "J" (.long q4) := (f14_16).other W16 (Or.inr (slot_ne (Or.inr (hw _ (List.mem_of_getElem? (i := 71) rfl))) (Or.inl (hw _ (List.mem_of_getElem? (i := 77) rfl))) (by decide) (t := .long) (t' := (.object "com/example/tillwire/tillwire/HttpFraming$BodyReader$Part")) (by decide) (by decide)))
  have f16_16 : Fld Z h16 a1 "com/example/tillwire/tillwire/HttpFraming$BodyReader" "passed" "J" (.long (q2 - (0 : Int64))) := (fw14).other W16 (Or.inr (slot_ne (Or.inl (hw _ (List.mem_of_getElem? (i := 123) rfl))) (Or.inl (hw _ (List.mem_of_getElem? (i := 77) rfl))) (by decide) (t := .long) (t' := (.object "com/example/tillwire/tillwire/HttpFraming$BodyReader$Part")) (by decide) (by decide)))
  have O16 := O14.wr W16 g_a1
  have N16 := Fr.snoc X16 N14 g_a1
  have K16 : Keep h0 h16 [a1] := K14.wr W16 (Or.inl (List.mem_of_getElem? (i := 0) rfl))
  obtain ⟨T17, h17, X17, e17, W17, st17⟩ := putF X16 hx hZ hown (host := "") (Or.inl (hw _ (List.mem_of_getElem? (i := 126) rfl))) Via.refl e16 f16_1 f16_0 (Or.inl (hw _ (List.mem_of_getElem? (i := 127) rfl))) (hw _ (List.mem_of_getElem? (i := 3) rfl)) (ty := .long) (by decide) rfl rfl (g := (mkF m 123 #[.val (.ref a1), .val (.long q2), .second, .val (.int (0 : Int32)), .val (.long q4), .second, .val (.long (0 : Int64)), .second] [(.long (0 : Int64)), (.ref a1)])) rfl rfl (hb hby d1_123)
  have fw17 : Fld Z h17 a1 "com/example/tillwire/tillwire/HttpFraming$BodyReader" "left" "J" (.long (0 : Int64)) := (f16_1).same W17
  have f17_0 : Exa Z h17 a1 "com/example/tillwire/tillwire/HttpFraming$BodyReader" := (f16_0).wr W17
  have f17_1 : Fld Z h17 a1 "com/example/tillwire/tillwire/HttpFraming$BodyReader" "skipped" "J" (.long (0 : Int64)) := (f16_2).other W17 (Or.inr (slot_ne (Or.inl (hw _ (List.mem_of_getElem? (i := 133) rfl))) (Or.inl (hw _ (List.mem_of_getElem? (i := 127) rfl))) (by decide) (t := .long) (t' := .long) (by decide) (by decide)))
  have f17_2 : Exa Z h17 b2 "java/io/ByteArrayOutputStream" := (f16_3).wr W17
  have f17_3 : Unt h17 b2 := Unt.wr W17 f16_4
  have f17_4 : Fld Z h17 b2 "java/io/ByteArrayOutputStream" "buf" "[B" (.ref b3_b1_b2) := (f16_5).other W17 (Or.inl (ne_exa f16_3 f16_0 (by decide)))
  have f17_5 : Fld Z h17 b2 "java/io/ByteArrayOutputStream" "count" "I" (.int (0 : Int32)) := (f16_6).other W17 (Or.inl (ne_exa f16_3 f16_0 (by decide)))
  have f17_6 : Exa Z h17 b3_b1_b2 "[B" := (f16_7).wr W17
  have f17_7 : Arv Z h17 b3_b1_b2 k3_k1_k2 .byte (32 : Int32) [] (.int (0 : Int32)) := (f16_8).other W17 (ne_exa f16_7 f16_0 (by decide))
  have f17_8 : Fld Z h17 a1 "com/example/tillwire/tillwire/HttpFraming$BodyReader" "kept" "Ljava/io/ByteArrayOutputStream;" (.ref b2) := (f16_9).other W17 (Or.inr (slot_ne (Or.inr (hw _ (List.mem_of_getElem? (i := 32) rfl))) (Or.inl (hw _ (List.mem_of_getElem? (i := 127) rfl))) (by decide) (t := (.object "java/io/ByteArrayOutputStream")) (t' := .long) (by decide) (by decide)))
  have f17_9 : Exa Z h17 b5 "com/example/tillwire/tillwire/HttpFraming$Line" := (f16_10).wr W17
  have f17_10 : Fld Z h17 a1 "com/example/tillwire/tillwire/HttpFraming$BodyReader" "line" "Lcom/example/tillwire/tillwire/HttpFraming$Line;" (.ref b5) := (f16_11).other W17 (Or.inr (slot_ne (Or.inr (hw _ (List.mem_of_getElem? (i := 62) rfl))) (Or.inl (hw _ (List.mem_of_getElem? (i := 127) rfl))) (by decide) (t := (.object "com/example/tillwire/tillwire/HttpFraming$Line")) (t' := .long) (by decide) (by decide)))
  have f17_11 : Fld Z h17 a1 "com/example/tillwire/tillwire/HttpFraming$BodyReader" "whole" "Z" (.int (1 : Int32)) := (f16_12).other W17 (Or.inr (slot_ne (Or.inl (hw _ (List.mem_of_getElem? (i := 64) rfl))) (Or.inl (hw _ (List.mem_of_getElem? (i := 127) rfl))) (by decide) (t := .boolean) (t' := .long) (by decide) (by decide)))
  have f17_12 : Fld Z h17 a1 "com/example/tillwire/tillwire/HttpFraming$BodyReader" "chunked" "Z" (.int (0 : Int32)) := (f16_13).other W17 (Or.inr (slot_ne (Or.inr (hw _ (List.mem_of_getElem? (i := 67) rfl))) (Or.inl (hw _ (List.mem_of_getElem? (i := 127) rfl))) (by decide) (t := .boolean) (t' := .long) (by decide) (by decide)))
  have f17_13 : Fld Z h17 a1 "com/example/tillwire/tillwire/HttpFraming$BodyReader" "keep" "I" (.int (0 : Int32)) := (f16_14).other W17 (Or.inr (slot_ne (Or.inr (hw _ (List.mem_of_getElem? (i := 69) rfl))) (Or.inl (hw _ (List.mem_of_getElem? (i := 127) rfl))) (by decide) (t := .int) (t' := .long) (by decide) (by decide)))
  have f17_14 : Fld Z h17 a1 "com/example/tillwire/tillwire/HttpFraming$BodyReader" "skip" "J" (.long q4) := (f16_15).other W17 (Or.inr (slot_ne (Or.inr (hw _ (List.mem_of_getElem? (i := 71) rfl))) (Or.inl (hw _ (List.mem_of_getElem? (i := 127) rfl))) (by decide) (t := .long) (t' := .long) (by decide) (by decide)))
  have f17_15 : Fld Z h17 a1 "com/example/tillwire/tillwire/HttpFraming$BodyReader" "passed" "J" (.long (q2 - (0 : Int64))) := (f16_16).other W17 (Or.inr (slot_ne (Or.inl (hw _ (List.mem_of_getElem? (i := 123) rfl))) (Or.inl (hw _ (List.mem_of_getElem? (i := 127) rfl))) (by decide) (t := .long) (t' := .long) (by decide) (by decide)))
  have f17_16 : Fld Z h17 a1 "com/example/tillwire/tillwire/HttpFraming$BodyReader" "part" "Lcom/example/tillwire/tillwire/HttpFraming$BodyReader$Part;" (.ref w_n4) := (fw16).other W17 (Or.inr (slot_ne (Or.inl (hw _ (List.mem_of_getElem? (i := 77) rfl))) (Or.inl (hw _ (List.mem_of_getElem? (i := 127) rfl))) (by decide) (t := (.object "com/example/tillwire/tillwire/HttpFraming$BodyReader$Part")) (t' := .long) (by decide) (by decide)))
  have O17 := O16.wr W17 g_a1
  have N17 := Fr.snoc X17 N16 g_a1
  have K17 : Keep h0 h17 [a1] := K16.wr W17 (Or.inl (List.mem_of_getElem? (i := 0) rfl))
  obtain ⟨cq18, q18, q18'⟩ := (f17_0).cell
  obtain ⟨_, _, ⟨T18, L18, k18, n18⟩, -, X18, ⟨Lc18, hQ18, l18, y18, z18⟩, st18⟩ := X17.privateBack hx (y := (⟨"com/example/tillwire/tillwire/HttpFraming$BodyReader", "endKept", "()V"⟩ : MethodName)) hown (mvT hZ (hw _ (List.mem_of_getElem? (i := 128) rfl))) (mvT hZ (hw _ (List.mem_of_getElem? (i := 129) rfl))) (own_selP hZ (hw _ (List.mem_of_getElem? (i := 81) rfl)) rfl (hw _ (List.mem_of_getElem? (i := 130) rfl)) (hw _ (List.mem_of_getElem? (i := 129) rfl)) (by decide)) (Cond.privateMethod_at (mvP hZ (hw _ (List.mem_of_getElem? (i := 130) rfl)) (args := #[]))) (mvT hZ (hw _ (List.mem_of_getElem? (i := 131) rfl))) (by decide) (backOf (W := 0) (rm_ek2 l Z a0 hw [] W a1 b2 q4 (q2 - (0 : Int64)) h17 n0 O17 xk g_a1 f17_0 f17_8 f17_11 f17_12 f17_16 fw17 f17_1 f17_15 f17_14) hZ (hw _ (List.mem_of_getElem? (i := 131) rfl)) (hw _ (List.mem_of_getElem? (i := 4) rfl)) (by decide) (by decide)) (g := (mkF m 127 #[.val (.ref a1), .val (.long q2), .second, .val (.int (0 : Int32)), .val (.long q4), .second, .val (.long (0 : Int64)), .second] [(.ref a1)])) rfl (by rw [hml]; rfl) (Steps.refl _) (a := a1) (by rw [e17]; exact q18) q18' (argsL := []) (rest := []) (lenOf pd_0 rfl) rfl (by show 2 * 0 + _ ≤ _; exact Nat.le_of_eq rfl) (hb hby d1_127) (fun _ _ => ⟨rfl, e17, (by decide : 5 + 0 ≤ _), (by decide : 56 + 0 ≤ _)⟩)
  dsimp only [Pt.U, Pt.locs, Pt.cells, Pt.slots] at X18 l18 y18 z18 st18 hQ18
  subst l18 y18 z18
  obtain ⟨N18q, hP18⟩ := hQ18
  have N18 := Fr.app N17 N18q
  obtain ⟨rfl, Kp18, fp18_0, fp18_1, fp18_2, fp18_3, fp18_4⟩ := hP18
  have f18_0 : Exa Z T18.heap a1 "com/example/tillwire/tillwire/HttpFraming$BodyReader" := (f17_0).keep Kp18
  have f18_1 : Exa Z T18.heap b2 "java/io/ByteArrayOutputStream" := (f17_2).keep Kp18
  have f18_2 : Unt T18.heap b2 := own_untk f17_3 Kp18 (ninS (ne_exa f17_2 f17_0 (by decide)) nin0)
  have f18_3 : Fld Z T18.heap b2 "java/io/ByteArrayOutputStream" "buf" "[B" (.ref b3_b1_b2) := (f17_4).keep Kp18 (ninS (ne_exa f17_2 f17_0 (by decide)) nin0)
  have f18_4 : Fld Z T18.heap b2 "java/io/ByteArrayOutputStream" "count" "I" (.int (0 : Int32)) := (f17_5).keep Kp18 (ninS (ne_exa f17_2 f17_0 (by decide)) nin0)
  have f18_5 : Exa Z T18.heap b3_b1_b2 "[B" := (f17_6).keep Kp18
  have f18_6 : Arv Z T18.heap b3_b1_b2 k3_k1_k2 .byte (32 : Int32) [] (.int (0 : Int32)) := (f17_7).keep Kp18 (ninS (ne_exa f17_6 f17_0 (by decide)) nin0)
  have f18_7 : Exa Z T18.heap b5 "com/example/tillwire/tillwire/HttpFraming$Line" := (f17_9).keep Kp18
  have O18 := O17.keep Kp18 (allS g_a1 all0)
  have K18 : Keep h0 T18.heap [a1] := K17.trans Kp18 (allS (Or.inl (List.mem_of_getElem? (i := 0) rfl)) all0)
  obtain ⟨fs, hr, hrun, hended, hW, hsame⟩ := X18.leave (v := none) (fun _ => rfl)
  refine ⟨_, _, pre0 _ ?_, hrun, hended, _, _, rfl, ?_, ⟨_, rfl⟩, hW, hsame.mono (by decide) (by decide)⟩
  · show Steps p.tables e below (s₁.setTop (mkF m 0 #[.val (.ref a1), .val (.long q2), .second, .val (.int (0 : Int32)), .val (.long q4), .second, .unset, .unset] [])) _
    refine XS.aloadN X0.here hx rfl (hb hby d1_0) rfl rfl ?_
    show Steps p.tables e below (s₁.setTop (mkF m 1 #[.val (.ref a1), .val (.long q2), .second, .val (.int (0 : Int32)), .val (.long q4), .second, .unset, .unset] [(.ref a1)])) _
    refine st1 _ ?_
    show Steps p.tables e below (T1.setTop (mkF m 4 #[.val (.ref a1), .val (.long q2), .second, .val (.int (0 : Int32)), .val (.long q4), .second, .unset, .unset] [])) _
    refine XS.aloadN X1.here hx rfl (hb hby d1_4) rfl rfl ?_
    show Steps p.tables e below (T1.setTop (mkF m 5 #[.val (.ref a1), .val (.long q2), .second, .val (.int (0 : Int32)), .val (.long q4), .second, .unset, .unset] [(.ref a1)])) _
    refine st2 _ ?_
    show Steps p.tables e below (T2.setTop (mkF m 8 #[.val (.ref a1), .val (.long q2), .second, .val (.int (0 : Int32)), .val (.long q4), .second, .unset, .unset] [(.ref b2), (.ref a1)])) _
    refine XS.dup X2.here hx rfl (hb hby d1_8) rfl rfl ?_
    show Steps p.tables e below (T2.setTop (mkF m 9 #[.val (.ref a1), .val (.long q2), .second, .val (.int (0 : Int32)), .val (.long q4), .second, .unset, .unset] [(.ref b2), (.ref b2), (.ref a1)])) _
    refine st3.trans ?_
    show Steps p.tables e below (T3.setTop (mkF m 12 #[.val (.ref a1), .val (.long q2), .second, .val (.int (0 : Int32)), .val (.long q4), .second, .unset, .unset] [(.ref b2), (.ref a1)])) _
    refine st4 _ ?_
    show Steps p.tables e below (T4.setTop (mkF m 15 #[.val (.ref a1), .val (.long q2), .second, .val (.int (0 : Int32)), .val (.long q4), .second, .unset, .unset] [])) _
    refine XS.aloadN X4.here hx rfl (hb hby d1_15) rfl rfl ?_
    show Steps p.tables e below (T4.setTop (mkF m 16 #[.val (.ref a1), .val (.long q2), .second, .val (.int (0 : Int32)), .val (.long q4), .second, .unset, .unset] [(.ref a1)])) _
    refine st5 _ ?_
    show Steps p.tables e below (T5.setTop (mkF m 19 #[.val (.ref a1), .val (.long q2), .second, .val (.int (0 : Int32)), .val (.long q4), .second, .unset, .unset] [(.ref b5), (.ref a1)])) _
    refine XS.dup X5.here hx rfl (hb hby d1_19) rfl rfl ?_
    show Steps p.tables e below (T5.setTop (mkF m 20 #[.val (.ref a1), .val (.long q2), .second, .val (.int (0 : Int32)), .val (.long q4), .second, .unset, .unset] [(.ref b5), (.ref b5), (.ref a1)])) _
    refine st6.trans ?_
    show Steps p.tables e below (T6.setTop (mkF m 23 #[.val (.ref a1), .val (.long q2), .second, .val (.int (0 : Int32)), .val (.long q4), .second, .unset, .unset] [(.ref b5), (.ref a1)])) _
    refine st7 _ ?_
    show Steps p.tables e below (T7.setTop (mkF m 26 #[.val (.ref a1), .val (.long q2), .second, .val (.int (0 : Int32)), .val (.long q4), .second, .unset, .unset] [])) _
    refine XS.aloadN X7.here hx rfl (hb hby d1_26) rfl rfl ?_
    show Steps p.tables e below (T7.setTop (mkF m 27 #[.val (.ref a1), .val (.long q2), .second, .val (.int (0 : Int32)), .val (.long q4), .second, .unset, .unset] [(.ref a1)])) _
    refine XS.iconst X7.here hx rfl (hb hby d1_27) ?_
    show Steps p.tables e below (T7.setTop (mkF m 28 #[.val (.ref a1), .val (.long q2), .second, .val (.int (0 : Int32)), .val (.long q4), .second, .unset, .unset] [(.int (1 : Int32)), (.ref a1)])) _
    refine st8 _ ?_
    show Steps p.tables e below (T8.setTop (mkF m 31 #[.val (.ref a1), .val (.long q2), .second, .val (.int (0 : Int32)), .val (.long q4), .second, .unset, .unset] [])) _
    refine XS.aloadN X8.here hx rfl (hb hby d1_31) rfl rfl ?_
    show Steps p.tables e below (T8.setTop (mkF m 32 #[.val (.ref a1), .val (.long q2), .second, .val (.int (0 : Int32)), .val (.long q4), .second, .unset, .unset] [(.ref a1)])) _
    refine XS.lloadN X8.here hx rfl (hb hby d1_32) rfl ?_
    show Steps p.tables e below (T8.setTop (mkF m 33 #[.val (.ref a1), .val (.long q2), .second, .val (.int (0 : Int32)), .val (.long q4), .second, .unset, .unset] [(.long q2), (.ref a1)])) _
    refine X8.ldc2Long hx hown (mvT hZ (hw _ (List.mem_of_getElem? (i := 65) rfl))) (g := (mkF m 33 #[.val (.ref a1), .val (.long q2), .second, .val (.int (0 : Int32)), .val (.long q4), .second, .unset, .unset] [(.long q2), (.ref a1)])) rfl (hb hby d1_33) _ ?_
    show Steps p.tables e below (T8.setTop (mkF m 36 #[.val (.ref a1), .val (.long q2), .second, .val (.int (0 : Int32)), .val (.long q4), .second, .unset, .unset] [(.long (-1 : Int64)), (.long q2), (.ref a1)])) _
    refine XS.lcmp X8.here hx rfl (hb hby d1_36) rfl ?_
    show Steps p.tables e below (T8.setTop (mkF m 37 #[.val (.ref a1), .val (.long q2), .second, .val (.int (0 : Int32)), .val (.long q4), .second, .unset, .unset] [(.int (lcmpW q2 (-1 : Int64))), (.ref a1)])) _
    refine XS.ifYes X8.here hx rfl (pc0 := 37) (pc' := 44) rfl (hb hby d1_37) rfl ((if0 _ _).trans (feq (xa : ¬ ((lcmpW q2 (-1 : Int64)) = (0 : Int32)))).2) (by decide) (by decide) ?_
    show Steps p.tables e below (T8.setTop (mkF m 44 #[.val (.ref a1), .val (.long q2), .second, .val (.int (0 : Int32)), .val (.long q4), .second, .unset, .unset] [(.ref a1)])) _
    refine XS.iconst X8.here hx rfl (hb hby d1_44) ?_
    show Steps p.tables e below (T8.setTop (mkF m 45 #[.val (.ref a1), .val (.long q2), .second, .val (.int (0 : Int32)), .val (.long q4), .second, .unset, .unset] [(.int (0 : Int32)), (.ref a1)])) _
    refine st9 _ ?_
    show Steps p.tables e below (T9.setTop (mkF m 48 #[.val (.ref a1), .val (.long q2), .second, .val (.int (0 : Int32)), .val (.long q4), .second, .unset, .unset] [])) _
    refine XS.aloadN X9.here hx rfl (hb hby d1_48) rfl rfl ?_
    show Steps p.tables e below (T9.setTop (mkF m 49 #[.val (.ref a1), .val (.long q2), .second, .val (.int (0 : Int32)), .val (.long q4), .second, .unset, .unset] [(.ref a1)])) _
    refine XS.iloadN X9.here hx rfl (hb hby d1_49) rfl ?_
    show Steps p.tables e below (T9.setTop (mkF m 50 #[.val (.ref a1), .val (.long q2), .second, .val (.int (0 : Int32)), .val (.long q4), .second, .unset, .unset] [(.int (0 : Int32)), (.ref a1)])) _
    refine st10 _ ?_
    show Steps p.tables e below (T10.setTop (mkF m 53 #[.val (.ref a1), .val (.long q2), .second, .val (.int (0 : Int32)), .val (.long q4), .second, .unset, .unset] [])) _
    refine XS.aloadN X10.here hx rfl (hb hby d1_53) rfl rfl ?_
    show Steps p.tables e below (T10.setTop (mkF m 54 #[.val (.ref a1), .val (.long q2), .second, .val (.int (0 : Int32)), .val (.long q4), .second, .unset, .unset] [(.ref a1)])) _
    refine XS.lload X10.here hx rfl (hb hby d1_54) rfl ?_
    show Steps p.tables e below (T10.setTop (mkF m 56 #[.val (.ref a1), .val (.long q2), .second, .val (.int (0 : Int32)), .val (.long q4), .second, .unset, .unset] [(.long q4), (.ref a1)])) _
    refine st11 _ ?_
    show Steps p.tables e below (T11.setTop (mkF m 59 #[.val (.ref a1), .val (.long q2), .second, .val (.int (0 : Int32)), .val (.long q4), .second, .unset, .unset] [])) _
    refine XS.aloadN X11.here hx rfl (hb hby d1_59) rfl rfl ?_
    show Steps p.tables e below (T11.setTop (mkF m 60 #[.val (.ref a1), .val (.long q2), .second, .val (.int (0 : Int32)), .val (.long q4), .second, .unset, .unset] [(.ref a1)])) _
    refine st12 _ ?_
    show Steps p.tables e below (T12.setTop (mkF m 63 #[.val (.ref a1), .val (.long q2), .second, .val (.int (0 : Int32)), .val (.long q4), .second, .unset, .unset] [(.int (0 : Int32))])) _
    refine XS.ifYes X12.here hx rfl (pc0 := 63) (pc' := 79) rfl (hb hby d1_63) rfl ((if0 _ _).trans (teq ((by decide) : (0 : Int32) = (0 : Int32))).1) (by decide) (by decide) ?_
    show Steps p.tables e below (T12.setTop (mkF m 79 #[.val (.ref a1), .val (.long q2), .second, .val (.int (0 : Int32)), .val (.long q4), .second, .unset, .unset] [])) _
    refine XS.lloadN X12.here hx rfl (hb hby d1_79) rfl ?_
    show Steps p.tables e below (T12.setTop (mkF m 80 #[.val (.ref a1), .val (.long q2), .second, .val (.int (0 : Int32)), .val (.long q4), .second, .unset, .unset] [(.long q2)])) _
    refine X12.ldc2Long hx hown (mvT hZ (hw _ (List.mem_of_getElem? (i := 72) rfl))) (g := (mkF m 80 #[.val (.ref a1), .val (.long q2), .second, .val (.int (0 : Int32)), .val (.long q4), .second, .unset, .unset] [(.long q2)])) rfl (hb hby d1_80) _ ?_
    show Steps p.tables e below (T12.setTop (mkF m 83 #[.val (.ref a1), .val (.long q2), .second, .val (.int (0 : Int32)), .val (.long q4), .second, .unset, .unset] [(.long (-2 : Int64)), (.long q2)])) _
    refine XS.lcmp X12.here hx rfl (hb hby d1_83) rfl ?_
    show Steps p.tables e below (T12.setTop (mkF m 84 #[.val (.ref a1), .val (.long q2), .second, .val (.int (0 : Int32)), .val (.long q4), .second, .unset, .unset] [(.int (lcmpW q2 (-2 : Int64)))])) _
    refine XS.ifYes X12.here hx rfl (pc0 := 84) (pc' := 97) rfl (hb hby d1_84) rfl ((if0 _ _).trans (feq (xb : ¬ ((lcmpW q2 (-2 : Int64)) = (0 : Int32)))).2) (by decide) (by decide) ?_
    show Steps p.tables e below (T12.setTop (mkF m 97 #[.val (.ref a1), .val (.long q2), .second, .val (.int (0 : Int32)), .val (.long q4), .second, .unset, .unset] [])) _
    refine XS.lloadN X12.here hx rfl (hb hby d1_97) rfl ?_
    show Steps p.tables e below (T12.setTop (mkF m 98 #[.val (.ref a1), .val (.long q2), .second, .val (.int (0 : Int32)), .val (.long q4), .second, .unset, .unset] [(.long q2)])) _
    refine XS.iloadN X12.here hx rfl (hb hby d1_98) rfl ?_
    show Steps p.tables e below (T12.setTop (mkF m 99 #[.val (.ref a1), .val (.long q2), .second, .val (.int (0 : Int32)), .val (.long q4), .second, .unset, .unset] [(.int (0 : Int32)), (.long q2)])) _
    refine XS.i2l X12.here hx rfl (hb hby d1_99) rfl ?_
    show Steps p.tables e below (T12.setTop (mkF m 100 #[.val (.ref a1), .val (.long q2), .second, .val (.int (0 : Int32)), .val (.long q4), .second, .unset, .unset] [(.long ((0 : Int32).toInt64)), (.long q2)])) _
    rw [show ((0 : Int32).toInt64) = (0 : Int64) from by decide]
    show Steps p.tables e below (T12.setTop (mkF m 100 #[.val (.ref a1), .val (.long q2), .second, .val (.int (0 : Int32)), .val (.long q4), .second, .unset, .unset] [(.long (0 : Int64)), (.long q2)])) _
    refine st13 _ ?_
    show Steps p.tables e below (T13.setTop (mkF m 103 #[.val (.ref a1), .val (.long q2), .second, .val (.int (0 : Int32)), .val (.long q4), .second, .unset, .unset] [(.long (0 : Int64))])) _
    refine XS.lstore X13.here hx rfl (hb hby d1_103) rfl (l' := #[.val (.ref a1), .val (.long q2), .second, .val (.int (0 : Int32)), .val (.long q4), .second, .val (.long (0 : Int64)), .second]) rfl ?_
    show Steps p.tables e below (T13.setTop (mkF m 105 #[.val (.ref a1), .val (.long q2), .second, .val (.int (0 : Int32)), .val (.long q4), .second, .val (.long (0 : Int64)), .second] [])) _
    refine XS.aloadN X13.here hx rfl (hb hby d1_105) rfl rfl ?_
    show Steps p.tables e below (T13.setTop (mkF m 106 #[.val (.ref a1), .val (.long q2), .second, .val (.int (0 : Int32)), .val (.long q4), .second, .val (.long (0 : Int64)), .second] [(.ref a1)])) _
    refine XS.lloadN X13.here hx rfl (hb hby d1_106) rfl ?_
    show Steps p.tables e below (T13.setTop (mkF m 107 #[.val (.ref a1), .val (.long q2), .second, .val (.int (0 : Int32)), .val (.long q4), .second, .val (.long (0 : Int64)), .second] [(.long q2), (.ref a1)])) _
    refine XS.lload X13.here hx rfl (hb hby d1_107) rfl ?_
    show Steps p.tables e below (T13.setTop (mkF m 109 #[.val (.ref a1), .val (.long q2), .second, .val (.int (0 : Int32)), .val (.long q4), .second, .val (.long (0 : Int64)), .second] [(.long (0 : Int64)), (.long q2), (.ref a1)])) _
    refine XS.lsub X13.here hx rfl (hb hby d1_109) rfl ?_
    show Steps p.tables e below (T13.setTop (mkF m 110 #[.val (.ref a1), .val (.long q2), .second, .val (.int (0 : Int32)), .val (.long q4), .second, .val (.long (0 : Int64)), .second] [(.long (q2 - (0 : Int64))), (.ref a1)])) _
    refine st14 _ ?_
    show Steps p.tables e below (T14.setTop (mkF m 113 #[.val (.ref a1), .val (.long q2), .second, .val (.int (0 : Int32)), .val (.long q4), .second, .val (.long (0 : Int64)), .second] [])) _
    refine XS.aloadN X14.here hx rfl (hb hby d1_113) rfl rfl ?_
    show Steps p.tables e below (T14.setTop (mkF m 114 #[.val (.ref a1), .val (.long q2), .second, .val (.int (0 : Int32)), .val (.long q4), .second, .val (.long (0 : Int64)), .second] [(.ref a1)])) _
    refine st15 _ ?_
    show Steps p.tables e below (T15.setTop (mkF m 117 #[.val (.ref a1), .val (.long q2), .second, .val (.int (0 : Int32)), .val (.long q4), .second, .val (.long (0 : Int64)), .second] [(.ref w_n4), (.ref a1)])) _
    refine st16 _ ?_
    show Steps p.tables e below (T16.setTop (mkF m 120 #[.val (.ref a1), .val (.long q2), .second, .val (.int (0 : Int32)), .val (.long q4), .second, .val (.long (0 : Int64)), .second] [])) _
    refine XS.aloadN X16.here hx rfl (hb hby d1_120) rfl rfl ?_
    show Steps p.tables e below (T16.setTop (mkF m 121 #[.val (.ref a1), .val (.long q2), .second, .val (.int (0 : Int32)), .val (.long q4), .second, .val (.long (0 : Int64)), .second] [(.ref a1)])) _
    refine XS.lload X16.here hx rfl (hb hby d1_121) rfl ?_
    show Steps p.tables e below (T16.setTop (mkF m 123 #[.val (.ref a1), .val (.long q2), .second, .val (.int (0 : Int32)), .val (.long q4), .second, .val (.long (0 : Int64)), .second] [(.long (0 : Int64)), (.ref a1)])) _
    refine st17 _ ?_
    show Steps p.tables e below (T17.setTop (mkF m 126 #[.val (.ref a1), .val (.long q2), .second, .val (.int (0 : Int32)), .val (.long q4), .second, .val (.long (0 : Int64)), .second] [])) _
    refine XS.aloadN X17.here hx rfl (hb hby d1_126) rfl rfl ?_
    show Steps p.tables e below (T17.setTop (mkF m 127 #[.val (.ref a1), .val (.long q2), .second, .val (.int (0 : Int32)), .val (.long q4), .second, .val (.long (0 : Int64)), .second] [(.ref a1)])) _
    refine st18.trans ?_
    show Steps p.tables e below (T18.setTop (mkF m 130 #[.val (.ref a1), .val (.long q2), .second, .val (.int (0 : Int32)), .val (.long q4), .second, .val (.long (0 : Int64)), .second] [])) _
    exact X18.returnOut hx Bd.returns (hb hby d1_130) hr
  · show QW (fun v h => ∃ b2 : Addr, ∃ b3_b1_b2 : Addr, ∃ k3_k1_k2 : ClassId, v = none ∧ Keep h0 h [a1] ∧ n0 ≤ b2 ∧ h0.size ≤ b2 ∧ n0 ≤ b3_b1_b2 ∧ h0.size ≤ b3_b1_b2 ∧ Exa Z h a1 "com/example/tillwire/tillwire/HttpFraming$BodyReader" ∧ Fld Z h a1 "com/example/tillwire/tillwire/HttpFraming$BodyReader" "kept" "Ljava/io/ByteArrayOutputStream;" (.ref b2) ∧ Fld Z h a1 "com/example/tillwire/tillwire/HttpFraming$BodyReader" "whole" "Z" (.int (0 : Int32)) ∧ Fld Z h a1 "com/example/tillwire/tillwire/HttpFraming$BodyReader" "part" "Lcom/example/tillwire/tillwire/HttpFraming$BodyReader$Part;" (.ref w_n3) ∧ Exa Z h b2 "java/io/ByteArrayOutputStream" ∧ Unt h b2 ∧ Fld Z h b2 "java/io/ByteArrayOutputStream" "buf" "[B" (.ref b3_b1_b2) ∧ Fld Z h b2 "java/io/ByteArrayOutputStream" "count" "I" (.int (0 : Int32)) ∧ Exa Z h b3_b1_b2 "[B" ∧ Arv Z h b3_b1_b2 k3_k1_k2 .byte (32 : Int32) [] (.int (0 : Int32))) n0 _ T18.heap _
    exact ⟨N18, ⟨b2, b3_b1_b2, k3_k1_k2, rfl, K18, g_b2, sz_b2, g_b3_b1_b2, sz_b3_b1_b2, fp18_0, fp18_1, fp18_2, fp18_4, f18_1, f18_2, f18_3, f18_4, f18_5, f18_6⟩⟩
theorem d9_0 : decode prog_23_method_3_code 0 = .ok (.aload_n 0, 1) := by decide +kernel
theorem d9_1 : decode prog_23_method_3_code 1 = .ok (.getfield 57, 3) := by decide +kernel
theorem d9_4 : decode prog_23_method_3_code 4 = .ok (.getstatic 78, 3) := by decide +kernel
theorem d9_7 : decode prog_23_method_3_code 7 = .ok (.if_acmp .ne 7, 3) := by decide +kernel
theorem d9_14 : decode prog_23_method_3_code 14 = .ok (.iconst 0, 1) := by decide +kernel
theorem d9_15 : decode prog_23_method_3_code 15 = .ok (.ireturn, 1) := by decide +kernel
theorem ef_9_11 (m : MethodId) (x0 : Addr) : entryFrame m #[(.ref x0)] 1 = mkF m 0 #[.val (.ref x0)] [] := by first | (simp [entryFrame, mkF, argsToLocals, Value.category]; done) | rfl
theorem pn_9 : plainName "com/example/tillwire/tillwire/HttpFraming$BodyReader" = true := by first | (simp [plainName, overriddenIn]; done) | decide +kernel
set_option maxRecDepth 65536 in
set_option maxHeartbeats 40000000 in
theorem rm_dnTO_END (l : Launch) (Z : State) (a0 : Array Value) (hw : ∀ d ∈ tables_1, d.before a0 Z = true) (ws : List Jvm.Cond) {w_n2 : Addr} {w_n3 : Addr} {w_n4 : Addr} {w_n1 : Addr} {v_n0 : Int32} (W : Wd Z w_n2 w_n3 w_n4 w_n1 v_n0) (a1 : Addr) (h0 : Heap) (n0 : Nat) (O0 : Old Z n0 h0) (hf0 : Fld Z h0 a1 "com/example/tillwire/tillwire/HttpFraming$BodyReader" "part" "Lcom/example/tillwire/tillwire/HttpFraming$BodyReader$Part;" (.ref w_n2)) :
    MetFree l (⟨"com/example/tillwire/tillwire/HttpFraming$BodyReader", "done", "()Z"⟩ : MethodName) (head1 (Jvm.Cond.code (⟨"com/example/tillwire/tillwire/HttpFraming$BodyReader", "done", "()Z"⟩ : MethodName) prog_23_method_3_code 1 (some .boolean) :: ws) ({ frames := 0, cells := 0, slots := 0, locals := 0 } : Room)) (fun a U => a = #[(.ref a1)] ∧ Z.Warmed39 U.vm ∧ U.heap = h0) (fun _ _ _ _ _ => True) (fun _ U o U' => ∃ v L, o = .returned v ∧ QP (some (.int (0 : Int32))) h0 n0 v U'.heap L ∧ FrameEnd U o U' L ({ frames := 0, cells := 0, slots := 0, locals := 0 } : Room).cells ({ frames := 0, cells := 0, slots := 0, locals := 0 } : Room).slots) := by
  have W' := W; obtain ⟨S_n2, E_n2, S_n3, E_n3, S_n4, E_n4, S_n1, E_n1, S_n0, N_n0, F_n2_ordinal, F_n3_ordinal⟩ := W'
  refine MetFree.of_bodySF (plainFor_of_name pn_9) hisR ?_
  intro p e s m args below meth c s₁ Bd hml0 hP hK
  obtain ⟨rfl, hZ, hh⟩ := hP
  have hx := Bd.exec
  have hby := Bd.bytes
  have hml : c.maxLocals = 1 := hml0
  have hown : s.vm.findClass "com/example/tillwire/tillwire/HttpFraming$BodyReader" = some m.cls := findClass_of_methodNamed Bd.named
  have hnm := (name_of_methodNamed Bd.named Bd.method).1
  have X0 : Stand p l e ({ frames := 0, cells := 0, slots := 0, locals := 0 } : Room) s m #[(.ref a1)] below meth c s₁ [] 0 0 := Stand.of_body Bd
  have e0 : s₁.heap = h0 := by rw [← hh, Bd.state]; rfl
  have N0 := Fr.nil n0
  have pre0 : ∀ t, Steps p.tables e below (s₁.setTop (mkF m 0 #[.val (.ref a1)] [])) t → Steps p.tables e below (s₁.setTop (entryFrame m #[(.ref a1)] 1)) t := fun t k => castTop (ef_9_11 m a1) k
  obtain ⟨T1, X1, e1, st1⟩ := getF X0 hx hZ hown (host := "") (Or.inl (hw _ (List.mem_of_getElem? (i := 76) rfl))) Via.refl e0 hf0 (g := (mkF m 1 #[.val (.ref a1)] [(.ref a1)])) rfl rfl (hb hby d9_1)
  obtain ⟨T2, X2, e2, st2⟩ := getS2 X1 hx hZ hown (host := "") (Or.inl (hw _ (List.mem_of_getElem? (i := 83) rfl))) Via.refl e1 (S_n3.ext O0.2) (g := (mkF m 4 #[.val (.ref a1)] [(.ref w_n2)])) rfl (hb hby d9_4)
  obtain ⟨fs, hr, hrun, hended, hW, hsame⟩ := X2.leave (v := some (.int (0 : Int32))) (fun h => by rw [Bd.returns] at h; cases h)
  refine ⟨_, _, pre0 _ ?_, hrun, hended, _, _, rfl, ?_, ⟨_, rfl⟩, hW, hsame.mono (by decide) (by decide)⟩
  · show Steps p.tables e below (s₁.setTop (mkF m 0 #[.val (.ref a1)] [])) _
    refine XS.aloadN X0.here hx rfl (hb hby d9_0) rfl rfl ?_
    show Steps p.tables e below (s₁.setTop (mkF m 1 #[.val (.ref a1)] [(.ref a1)])) _
    refine st1 _ ?_
    show Steps p.tables e below (T1.setTop (mkF m 4 #[.val (.ref a1)] [(.ref w_n2)])) _
    refine st2 _ ?_
    show Steps p.tables e below (T2.setTop (mkF m 7 #[.val (.ref a1)] [(.ref w_n3), (.ref w_n2)])) _
    refine Jvm.RoadKit.acmp (g := (mkF m 7 #[.val (.ref a1)] [(.ref w_n3), (.ref w_n2)])) X2 hx rfl rfl rfl (pc0 := 7) (pc' := 14) (same := false) rfl (hb hby d9_7) rfl (decide_eq_false fun q => (Fld.ne F_n2_ordinal F_n3_ordinal (fun q => absurd (Value.int.inj q) (by decide))) (Value.ref.inj q)) (by decide) (by decide) ?_
    show Steps p.tables e below (T2.setTop (mkF m 14 #[.val (.ref a1)] [])) _
    refine XS.iconst X2.here hx rfl (hb hby d9_14) ?_
    show Steps p.tables e below (T2.setTop (mkF m 15 #[.val (.ref a1)] [(.int (0 : Int32))])) _
    exact retN X2 hx (t := .boolean) Bd.returns (by simp) (hb hby d9_15) hr
  · show QP (some (.int (0 : Int32))) h0 n0 _ T2.heap _
    rw [e2]
    exact ⟨rfl, N0, rfl⟩
theorem d9_10 : decode prog_23_method_3_code 10 = .ok (.iconst 1, 1) := by decide +kernel
theorem d9_11 : decode prog_23_method_3_code 11 = .ok (.goto 4, 3) := by decide +kernel
set_option maxRecDepth 65536 in
set_option maxHeartbeats 40000000 in
theorem rm_dnDONE (l : Launch) (Z : State) (a0 : Array Value) (hw : ∀ d ∈ tables_1, d.before a0 Z = true) (ws : List Jvm.Cond) {w_n2 : Addr} {w_n3 : Addr} {w_n4 : Addr} {w_n1 : Addr} {v_n0 : Int32} (W : Wd Z w_n2 w_n3 w_n4 w_n1 v_n0) (a1 : Addr) (h0 : Heap) (n0 : Nat) (O0 : Old Z n0 h0) (hf0 : Fld Z h0 a1 "com/example/tillwire/tillwire/HttpFraming$BodyReader" "part" "Lcom/example/tillwire/tillwire/HttpFraming$BodyReader$Part;" (.ref w_n3)) :
    MetFree l (⟨"com/example/tillwire/tillwire/HttpFraming$BodyReader", "done", "()Z"⟩ : MethodName) (head1 (Jvm.Cond.code (⟨"com/example/tillwire/tillwire/HttpFraming$BodyReader", "done", "()Z"⟩ : MethodName) prog_23_method_3_code 1 (some .boolean) :: ws) ({ frames := 0, cells := 0, slots := 0, locals := 0 } : Room)) (fun a U => a = #[(.ref a1)] ∧ Z.Warmed39 U.vm ∧ U.heap = h0) (fun _ _ _ _ _ => True) (fun _ U o U' => ∃ v L, o = .returned v ∧ QP (some (.int (1 : Int32))) h0 n0 v U'.heap L ∧ FrameEnd U o U' L ({ frames := 0, cells := 0, slots := 0, locals := 0 } : Room).cells ({ frames := 0, cells := 0, slots := 0, locals := 0 } : Room).slots) := by
  have W' := W; obtain ⟨S_n2, E_n2, S_n3, E_n3, S_n4, E_n4, S_n1, E_n1, S_n0, N_n0, F_n2_ordinal, F_n3_ordinal⟩ := W'
  refine MetFree.of_bodySF (plainFor_of_name pn_9) hisR ?_
  intro p e s m args below meth c s₁ Bd hml0 hP hK
  obtain ⟨rfl, hZ, hh⟩ := hP
  have hx := Bd.exec
  have hby := Bd.bytes
  have hml : c.maxLocals = 1 := hml0
  have hown : s.vm.findClass "com/example/tillwire/tillwire/HttpFraming$BodyReader" = some m.cls := findClass_of_methodNamed Bd.named
  have hnm := (name_of_methodNamed Bd.named Bd.method).1
  have X0 : Stand p l e ({ frames := 0, cells := 0, slots := 0, locals := 0 } : Room) s m #[(.ref a1)] below meth c s₁ [] 0 0 := Stand.of_body Bd
  have e0 : s₁.heap = h0 := by rw [← hh, Bd.state]; rfl
  have N0 := Fr.nil n0
  have pre0 : ∀ t, Steps p.tables e below (s₁.setTop (mkF m 0 #[.val (.ref a1)] [])) t → Steps p.tables e below (s₁.setTop (entryFrame m #[(.ref a1)] 1)) t := fun t k => castTop (ef_9_11 m a1) k
  obtain ⟨T1, X1, e1, st1⟩ := getF X0 hx hZ hown (host := "") (Or.inl (hw _ (List.mem_of_getElem? (i := 76) rfl))) Via.refl e0 hf0 (g := (mkF m 1 #[.val (.ref a1)] [(.ref a1)])) rfl rfl (hb hby d9_1)
  obtain ⟨T2, X2, e2, st2⟩ := getS2 X1 hx hZ hown (host := "") (Or.inl (hw _ (List.mem_of_getElem? (i := 83) rfl))) Via.refl e1 (S_n3.ext O0.2) (g := (mkF m 4 #[.val (.ref a1)] [(.ref w_n3)])) rfl (hb hby d9_4)
  obtain ⟨fs, hr, hrun, hended, hW, hsame⟩ := X2.leave (v := some (.int (1 : Int32))) (fun h => by rw [Bd.returns] at h; cases h)
  refine ⟨_, _, pre0 _ ?_, hrun, hended, _, _, rfl, ?_, ⟨_, rfl⟩, hW, hsame.mono (by decide) (by decide)⟩
  · show Steps p.tables e below (s₁.setTop (mkF m 0 #[.val (.ref a1)] [])) _
    refine XS.aloadN X0.here hx rfl (hb hby d9_0) rfl rfl ?_
    show Steps p.tables e below (s₁.setTop (mkF m 1 #[.val (.ref a1)] [(.ref a1)])) _
    refine st1 _ ?_
    show Steps p.tables e below (T1.setTop (mkF m 4 #[.val (.ref a1)] [(.ref w_n3)])) _
    refine st2 _ ?_
    show Steps p.tables e below (T2.setTop (mkF m 7 #[.val (.ref a1)] [(.ref w_n3), (.ref w_n3)])) _
    refine Jvm.RoadKit.acmp (g := (mkF m 7 #[.val (.ref a1)] [(.ref w_n3), (.ref w_n3)])) X2 hx rfl rfl rfl (pc0 := 7) (pc' := 10) (same := true) rfl (hb hby d9_7) rfl (decide_eq_true rfl) (by decide) (by decide) ?_
    show Steps p.tables e below (T2.setTop (mkF m 10 #[.val (.ref a1)] [])) _
    refine XS.iconst X2.here hx rfl (hb hby d9_10) ?_
    show Steps p.tables e below (T2.setTop (mkF m 11 #[.val (.ref a1)] [(.int (1 : Int32))])) _
    refine XS.goto X2.here hx rfl (pc0 := 11) (pc' := 15) rfl (hb hby d9_11) (by decide) (by decide) ?_
    show Steps p.tables e below (T2.setTop (mkF m 15 #[.val (.ref a1)] [(.int (1 : Int32))])) _
    exact retN X2 hx (t := .boolean) Bd.returns (by simp) (hb hby d9_15) hr
  · show QP (some (.int (1 : Int32))) h0 n0 _ T2.heap _
    rw [e2]
    exact ⟨rfl, N0, rfl⟩
theorem d10_0 : decode prog_23_method_6_code 0 = .ok (.aload_n 0, 1) := by decide +kernel
theorem d10_1 : decode prog_23_method_6_code 1 = .ok (.getfield 25, 3) := by decide +kernel
theorem d10_4 : decode prog_23_method_6_code 4 = .ok (.ireturn, 1) := by decide +kernel
theorem ef_10_12 (m : MethodId) (x0 : Addr) : entryFrame m #[(.ref x0)] 1 = mkF m 0 #[.val (.ref x0)] [] := by first | (simp [entryFrame, mkF, argsToLocals, Value.category]; done) | rfl
theorem pn_10 : plainName "com/example/tillwire/tillwire/HttpFraming$BodyReader" = true := by first | (simp [plainName, overriddenIn]; done) | decide +kernel
set_option maxRecDepth 65536 in
set_option maxHeartbeats 40000000 in
theorem rm_wh0 (l : Launch) (Z : State) (a0 : Array Value) (hw : ∀ d ∈ tables_1, d.before a0 Z = true) (ws : List Jvm.Cond) {w_n2 : Addr} {w_n3 : Addr} {w_n4 : Addr} {w_n1 : Addr} {v_n0 : Int32} (W : Wd Z w_n2 w_n3 w_n4 w_n1 v_n0) (a1 : Addr) (h0 : Heap) (n0 : Nat) (O0 : Old Z n0 h0) (hf0 : Fld Z h0 a1 "com/example/tillwire/tillwire/HttpFraming$BodyReader" "whole" "Z" (.int (0 : Int32))) :
    MetFree l (⟨"com/example/tillwire/tillwire/HttpFraming$BodyReader", "whole", "()Z"⟩ : MethodName) (head1 (Jvm.Cond.code (⟨"com/example/tillwire/tillwire/HttpFraming$BodyReader", "whole", "()Z"⟩ : MethodName) prog_23_method_6_code 1 (some .boolean) :: ws) ({ frames := 0, cells := 0, slots := 0, locals := 0 } : Room)) (fun a U => a = #[(.ref a1)] ∧ Z.Warmed39 U.vm ∧ U.heap = h0) (fun _ _ _ _ _ => True) (fun _ U o U' => ∃ v L, o = .returned v ∧ QP (some (.int (0 : Int32))) h0 n0 v U'.heap L ∧ FrameEnd U o U' L ({ frames := 0, cells := 0, slots := 0, locals := 0 } : Room).cells ({ frames := 0, cells := 0, slots := 0, locals := 0 } : Room).slots) := by
  have W' := W; obtain ⟨S_n2, E_n2, S_n3, E_n3, S_n4, E_n4, S_n1, E_n1, S_n0, N_n0, F_n2_ordinal, F_n3_ordinal⟩ := W'
  refine MetFree.of_bodySF (plainFor_of_name pn_10) hisR ?_
  intro p e s m args below meth c s₁ Bd hml0 hP hK
  obtain ⟨rfl, hZ, hh⟩ := hP
  have hx := Bd.exec
  have hby := Bd.bytes
  have hml : c.maxLocals = 1 := hml0
  have hown : s.vm.findClass "com/example/tillwire/tillwire/HttpFraming$BodyReader" = some m.cls := findClass_of_methodNamed Bd.named
  have hnm := (name_of_methodNamed Bd.named Bd.method).1
  have X0 : Stand p l e ({ frames := 0, cells := 0, slots := 0, locals := 0 } : Room) s m #[(.ref a1)] below meth c s₁ [] 0 0 := Stand.of_body Bd
  have e0 : s₁.heap = h0 := by rw [← hh, Bd.state]; rfl
  have N0 := Fr.nil n0
  have pre0 : ∀ t, Steps p.tables e below (s₁.setTop (mkF m 0 #[.val (.ref a1)] [])) t → Steps p.tables e below (s₁.setTop (entryFrame m #[(.ref a1)] 1)) t := fun t k => castTop (ef_10_12 m a1) k
  obtain ⟨T1, X1, e1, st1⟩ := getF X0 hx hZ hown (host := "") (Or.inl (hw _ (List.mem_of_getElem? (i := 63) rfl))) Via.refl e0 hf0 (g := (mkF m 1 #[.val (.ref a1)] [(.ref a1)])) rfl rfl (hb hby d10_1)
  obtain ⟨fs, hr, hrun, hended, hW, hsame⟩ := X1.leave (v := some (.int (0 : Int32))) (fun h => by rw [Bd.returns] at h; cases h)
  refine ⟨_, _, pre0 _ ?_, hrun, hended, _, _, rfl, ?_, ⟨_, rfl⟩, hW, hsame.mono (by decide) (by decide)⟩
  · show Steps p.tables e below (s₁.setTop (mkF m 0 #[.val (.ref a1)] [])) _
    refine XS.aloadN X0.here hx rfl (hb hby d10_0) rfl rfl ?_
    show Steps p.tables e below (s₁.setTop (mkF m 1 #[.val (.ref a1)] [(.ref a1)])) _
    refine st1 _ ?_
    show Steps p.tables e below (T1.setTop (mkF m 4 #[.val (.ref a1)] [(.int (0 : Int32))])) _
    exact retN X1 hx (t := .boolean) Bd.returns (by simp) (hb hby d10_4) hr
  · show QP (some (.int (0 : Int32))) h0 n0 _ T1.heap _
    rw [e1]
    exact ⟨rfl, N0, rfl⟩
set_option maxRecDepth 65536 in
set_option maxHeartbeats 40000000 in
theorem rm_wh1 (l : Launch) (Z : State) (a0 : Array Value) (hw : ∀ d ∈ tables_1, d.before a0 Z = true) (ws : List Jvm.Cond) {w_n2 : Addr} {w_n3 : Addr} {w_n4 : Addr} {w_n1 : Addr} {v_n0 : Int32} (W : Wd Z w_n2 w_n3 w_n4 w_n1 v_n0) (a1 : Addr) (h0 : Heap) (n0 : Nat) (O0 : Old Z n0 h0) (hf0 : Fld Z h0 a1 "com/example/tillwire/tillwire/HttpFraming$BodyReader" "whole" "Z" (.int (1 : Int32))) :
    MetFree l (⟨"com/example/tillwire/tillwire/HttpFraming$BodyReader", "whole", "()Z"⟩ : MethodName) (head1 (Jvm.Cond.code (⟨"com/example/tillwire/tillwire/HttpFraming$BodyReader", "whole", "()Z"⟩ : MethodName) prog_23_method_6_code 1 (some .boolean) :: ws) ({ frames := 0, cells := 0, slots := 0, locals := 0 } : Room)) (fun a U => a = #[(.ref a1)] ∧ Z.Warmed39 U.vm ∧ U.heap = h0) (fun _ _ _ _ _ => True) (fun _ U o U' => ∃ v L, o = .returned v ∧ QP (some (.int (1 : Int32))) h0 n0 v U'.heap L ∧ FrameEnd U o U' L ({ frames := 0, cells := 0, slots := 0, locals := 0 } : Room).cells ({ frames := 0, cells := 0, slots := 0, locals := 0 } : Room).slots) := by
  have W' := W; obtain ⟨S_n2, E_n2, S_n3, E_n3, S_n4, E_n4, S_n1, E_n1, S_n0, N_n0, F_n2_ordinal, F_n3_ordinal⟩ := W'
  refine MetFree.of_bodySF (plainFor_of_name pn_10) hisR ?_
  intro p e s m args below meth c s₁ Bd hml0 hP hK
  obtain ⟨rfl, hZ, hh⟩ := hP
  have hx := Bd.exec
  have hby := Bd.bytes
  have hml : c.maxLocals = 1 := hml0
  have hown : s.vm.findClass "com/example/tillwire/tillwire/HttpFraming$BodyReader" = some m.cls := findClass_of_methodNamed Bd.named
  have hnm := (name_of_methodNamed Bd.named Bd.method).1
  have X0 : Stand p l e ({ frames := 0, cells := 0, slots := 0, locals := 0 } : Room) s m #[(.ref a1)] below meth c s₁ [] 0 0 := Stand.of_body Bd
  have e0 : s₁.heap = h0 := by rw [← hh, Bd.state]; rfl
  have N0 := Fr.nil n0
  have pre0 : ∀ t, Steps p.tables e below (s₁.setTop (mkF m 0 #[.val (.ref a1)] [])) t → Steps p.tables e below (s₁.setTop (entryFrame m #[(.ref a1)] 1)) t := fun t k => castTop (ef_10_12 m a1) k
  obtain ⟨T1, X1, e1, st1⟩ := getF X0 hx hZ hown (host := "") (Or.inl (hw _ (List.mem_of_getElem? (i := 63) rfl))) Via.refl e0 hf0 (g := (mkF m 1 #[.val (.ref a1)] [(.ref a1)])) rfl rfl (hb hby d10_1)
  obtain ⟨fs, hr, hrun, hended, hW, hsame⟩ := X1.leave (v := some (.int (1 : Int32))) (fun h => by rw [Bd.returns] at h; cases h)
  refine ⟨_, _, pre0 _ ?_, hrun, hended, _, _, rfl, ?_, ⟨_, rfl⟩, hW, hsame.mono (by decide) (by decide)⟩
  · show Steps p.tables e below (s₁.setTop (mkF m 0 #[.val (.ref a1)] [])) _
    refine XS.aloadN X0.here hx rfl (hb hby d10_0) rfl rfl ?_
    show Steps p.tables e below (s₁.setTop (mkF m 1 #[.val (.ref a1)] [(.ref a1)])) _
    refine st1 _ ?_
    show Steps p.tables e below (T1.setTop (mkF m 4 #[.val (.ref a1)] [(.int (1 : Int32))])) _
    exact retN X1 hx (t := .boolean) Bd.returns (by simp) (hb hby d10_4) hr
  · show QP (some (.int (1 : Int32))) h0 n0 _ T1.heap _
    rw [e1]
    exact ⟨rfl, N0, rfl⟩
theorem d11_0 : decode prog_23_method_4_code 0 = .ok (.aload_n 0, 1) := by decide +kernel
theorem d11_1 : decode prog_23_method_4_code 1 = .ok (.getfield 57, 3) := by decide +kernel
theorem d11_4 : decode prog_23_method_4_code 4 = .ok (.getstatic 54, 3) := by decide +kernel
theorem d11_7 : decode prog_23_method_4_code 7 = .ok (.if_acmp .ne 13, 3) := by decide +kernel
theorem d11_10 : decode prog_23_method_4_code 10 = .ok (.aload_n 0, 1) := by decide +kernel
theorem d11_11 : decode prog_23_method_4_code 11 = .ok (.getstatic 78, 3) := by decide +kernel
theorem d11_14 : decode prog_23_method_4_code 14 = .ok (.putfield 57, 3) := by decide +kernel
theorem d11_17 : decode prog_23_method_4_code 17 = .ok (.goto 23, 3) := by decide +kernel
theorem d11_40 : decode prog_23_method_4_code 40 = .ok (.return_, 1) := by decide +kernel
theorem ef_11_13 (m : MethodId) (x0 : Addr) : entryFrame m #[(.ref x0)] 1 = mkF m 0 #[.val (.ref x0)] [] := by first | (simp [entryFrame, mkF, argsToLocals, Value.category]; done) | rfl
theorem pn_11 : plainName "com/example/tillwire/tillwire/HttpFraming$BodyReader" = true := by first | (simp [plainName, overriddenIn]; done) | decide +kernel
set_option maxRecDepth 65536 in
set_option maxHeartbeats 40000000 in
theorem rm_enTO_END (l : Launch) (Z : State) (a0 : Array Value) (hw : ∀ d ∈ tables_1, d.before a0 Z = true) (ws : List Jvm.Cond) {w_n2 : Addr} {w_n3 : Addr} {w_n4 : Addr} {w_n1 : Addr} {v_n0 : Int32} (W : Wd Z w_n2 w_n3 w_n4 w_n1 v_n0) (a1 : Addr) (ak : Addr) (u : Int32) (h0 : Heap) (n0 : Nat) (O0 : Old Z n0 h0) (g_a1 : n0 ≤ a1) (hf0 : Exa Z h0 a1 "com/example/tillwire/tillwire/HttpFraming$BodyReader") (hf1 : Fld Z h0 a1 "com/example/tillwire/tillwire/HttpFraming$BodyReader" "kept" "Ljava/io/ByteArrayOutputStream;" (.ref ak)) (hf2 : Fld Z h0 a1 "com/example/tillwire/tillwire/HttpFraming$BodyReader" "whole" "Z" (.int u)) (hf3 : Fld Z h0 a1 "com/example/tillwire/tillwire/HttpFraming$BodyReader" "part" "Lcom/example/tillwire/tillwire/HttpFraming$BodyReader$Part;" (.ref w_n2)) :
    MetFree l (⟨"com/example/tillwire/tillwire/HttpFraming$BodyReader", "end", "()V"⟩ : MethodName) (head1 (Jvm.Cond.code (⟨"com/example/tillwire/tillwire/HttpFraming$BodyReader", "end", "()V"⟩ : MethodName) prog_23_method_4_code 1 none :: ws) ({ frames := 0, cells := 0, slots := 0, locals := 0 } : Room)) (fun a U => a = #[(.ref a1)] ∧ Z.Warmed39 U.vm ∧ U.heap = h0) (fun _ _ _ _ _ => True) (fun _ U o U' => ∃ v L, o = .returned v ∧ QW (fun v h => v = none ∧ Keep h0 h [a1] ∧ Exa Z h a1 "com/example/tillwire/tillwire/HttpFraming$BodyReader" ∧ Fld Z h a1 "com/example/tillwire/tillwire/HttpFraming$BodyReader" "kept" "Ljava/io/ByteArrayOutputStream;" (.ref ak) ∧ Fld Z h a1 "com/example/tillwire/tillwire/HttpFraming$BodyReader" "whole" "Z" (.int u) ∧ Fld Z h a1 "com/example/tillwire/tillwire/HttpFraming$BodyReader" "part" "Lcom/example/tillwire/tillwire/HttpFraming$BodyReader$Part;" (.ref w_n3)) n0 v U'.heap L ∧ FrameEnd U o U' L ({ frames := 0, cells := 0, slots := 0, locals := 0 } : Room).cells ({ frames := 0, cells := 0, slots := 0, locals := 0 } : Room).slots) := by
  have W' := W; obtain ⟨S_n2, E_n2, S_n3, E_n3, S_n4, E_n4, S_n1, E_n1, S_n0, N_n0, F_n2_ordinal, F_n3_ordinal⟩ := W'
  refine MetFree.of_bodySF (plainFor_of_name pn_11) hisR ?_
  intro p e s m args below meth c s₁ Bd hml0 hP hK
  obtain ⟨rfl, hZ, hh⟩ := hP
  have hx := Bd.exec
  have hby := Bd.bytes
  have hml : c.maxLocals = 1 := hml0
  have hown : s.vm.findClass "com/example/tillwire/tillwire/HttpFraming$BodyReader" = some m.cls := findClass_of_methodNamed Bd.named
  have hnm := (name_of_methodNamed Bd.named Bd.method).1
  have X0 : Stand p l e ({ frames := 0, cells := 0, slots := 0, locals := 0 } : Room) s m #[(.ref a1)] below meth c s₁ [] 0 0 := Stand.of_body Bd
  have e0 : s₁.heap = h0 := by rw [← hh, Bd.state]; rfl
  have N0 := Fr.nil n0
  have pre0 : ∀ t, Steps p.tables e below (s₁.setTop (mkF m 0 #[.val (.ref a1)] [])) t → Steps p.tables e below (s₁.setTop (entryFrame m #[(.ref a1)] 1)) t := fun t k => castTop (ef_11_13 m a1) k
  obtain ⟨T1, X1, e1, st1⟩ := getF X0 hx hZ hown (host := "") (Or.inl (hw _ (List.mem_of_getElem? (i := 76) rfl))) Via.refl e0 hf3 (g := (mkF m 1 #[.val (.ref a1)] [(.ref a1)])) rfl rfl (hb hby d11_1)
  obtain ⟨T2, X2, e2, st2⟩ := getS2 X1 hx hZ hown (host := "") (Or.inl (hw _ (List.mem_of_getElem? (i := 73) rfl))) Via.refl e1 (S_n2.ext O0.2) (g := (mkF m 4 #[.val (.ref a1)] [(.ref w_n2)])) rfl (hb hby d11_4)
  obtain ⟨T3, X3, e3, st3⟩ := getS2 X2 hx hZ hown (host := "") (Or.inl (hw _ (List.mem_of_getElem? (i := 83) rfl))) Via.refl e2 (S_n3.ext O0.2) (g := (mkF m 11 #[.val (.ref a1)] [(.ref a1)])) rfl (hb hby d11_11)
  obtain ⟨T4, h4, X4, e4, W4, st4⟩ := putF X3 hx hZ hown (host := "") (Or.inl (hw _ (List.mem_of_getElem? (i := 76) rfl))) Via.refl e3 hf3 hf0 (Or.inl (hw _ (List.mem_of_getElem? (i := 77) rfl))) (hw _ (List.mem_of_getElem? (i := 3) rfl)) (ty := (.object "com/example/tillwire/tillwire/HttpFraming$BodyReader$Part")) (by decide) rfl rfl (g := (mkF m 14 #[.val (.ref a1)] [(.ref w_n3), (.ref a1)])) rfl rfl (hb hby d11_14)
  have fw4 : Fld Z h4 a1 "com/example/tillwire/tillwire/HttpFraming$BodyReader" "part" "Lcom/example/tillwire/tillwire/HttpFraming$BodyReader$Part;" (.ref w_n3) := (hf3).same W4
  have f4_0 : Exa Z h4 a1 "com/example/tillwire/tillwire/HttpFraming$BodyReader" := (hf0).wr W4
  have f4_1 : Fld Z h4 a1 "com/example/tillwire/tillwire/HttpFraming$BodyReader" "kept" "Ljava/io/ByteArrayOutputStream;" (.ref ak) := (hf1).other W4 (Or.inr (slot_ne (Or.inr (hw _ (List.mem_of_getElem? (i := 32) rfl))) (Or.inl (hw _ (List.mem_of_getElem? (i := 77) rfl))) (by decide) (t := (.object "java/io/ByteArrayOutputStream")) (t' := (.object "com/example/tillwire/tillwire/HttpFraming$BodyReader$Part")) (by decide) (by decide)))
  have f4_2 : Fld Z h4 a1 "com/example/tillwire/tillwire/HttpFraming$BodyReader" "whole" "Z" (.int u) := (hf2).other W4 (Or.inr (slot_ne (Or.inl (hw _ (List.mem_of_getElem? (i := 64) rfl))) (Or.inl (hw _ (List.mem_of_getElem? (i := 77) rfl))) (by decide) (t := .boolean) (t' := (.object "com/example/tillwire/tillwire/HttpFraming$BodyReader$Part")) (by decide) (by decide)))
  have O4 := O0.wr W4 g_a1
  have N4 := Fr.snoc X4 N0 g_a1
  have K4 : Keep h0 h4 [a1] := (Keep.refl h0 [a1]).wr W4 (Or.inl (List.mem_of_getElem? (i := 0) rfl))
  obtain ⟨fs, hr, hrun, hended, hW, hsame⟩ := X4.leave (v := none) (fun _ => rfl)
  refine ⟨_, _, pre0 _ ?_, hrun, hended, _, _, rfl, ?_, ⟨_, rfl⟩, hW, hsame.mono (by decide) (by decide)⟩
  · show Steps p.tables e below (s₁.setTop (mkF m 0 #[.val (.ref a1)] [])) _
    refine XS.aloadN X0.here hx rfl (hb hby d11_0) rfl rfl ?_
    show Steps p.tables e below (s₁.setTop (mkF m 1 #[.val (.ref a1)] [(.ref a1)])) _
    refine st1 _ ?_
    show Steps p.tables e below (T1.setTop (mkF m 4 #[.val (.ref a1)] [(.ref w_n2)])) _
    refine st2 _ ?_
    show Steps p.tables e below (T2.setTop (mkF m 7 #[.val (.ref a1)] [(.ref w_n2), (.ref w_n2)])) _
    refine Jvm.RoadKit.acmp (g := (mkF m 7 #[.val (.ref a1)] [(.ref w_n2), (.ref w_n2)])) X2 hx rfl rfl rfl (pc0 := 7) (pc' := 10) (same := true) rfl (hb hby d11_7) rfl (decide_eq_true rfl) (by decide) (by decide) ?_
    show Steps p.tables e below (T2.setTop (mkF m 10 #[.val (.ref a1)] [])) _
    refine XS.aloadN X2.here hx rfl (hb hby d11_10) rfl rfl ?_
    show Steps p.tables e below (T2.setTop (mkF m 11 #[.val (.ref a1)] [(.ref a1)])) _
    refine st3 _ ?_
    show Steps p.tables e below (T3.setTop (mkF m 14 #[.val (.ref a1)] [(.ref w_n3), (.ref a1)])) _
    refine st4 _ ?_
    show Steps p.tables e below (T4.setTop (mkF m 17 #[.val (.ref a1)] [])) _
    refine XS.goto X4.here hx rfl (pc0 := 17) (pc' := 40) rfl (hb hby d11_17) (by decide) (by decide) ?_
    show Steps p.tables e below (T4.setTop (mkF m 40 #[.val (.ref a1)] [])) _
    exact X4.returnOut hx Bd.returns (hb hby d11_40) hr
  · show QW (fun v h => v = none ∧ Keep h0 h [a1] ∧ Exa Z h a1 "com/example/tillwire/tillwire/HttpFraming$BodyReader" ∧ Fld Z h a1 "com/example/tillwire/tillwire/HttpFraming$BodyReader" "kept" "Ljava/io/ByteArrayOutputStream;" (.ref ak) ∧ Fld Z h a1 "com/example/tillwire/tillwire/HttpFraming$BodyReader" "whole" "Z" (.int u) ∧ Fld Z h a1 "com/example/tillwire/tillwire/HttpFraming$BodyReader" "part" "Lcom/example/tillwire/tillwire/HttpFraming$BodyReader$Part;" (.ref w_n3)) n0 _ T4.heap _
    rw [e4]
    exact ⟨N4, ⟨rfl, K4, f4_0, f4_1, f4_2, fw4⟩⟩
theorem d11_20 : decode prog_23_method_4_code 20 = .ok (.aload_n 0, 1) := by decide +kernel
theorem d11_21 : decode prog_23_method_4_code 21 = .ok (.getfield 57, 3) := by decide +kernel
theorem d11_24 : decode prog_23_method_4_code 24 = .ok (.getstatic 78, 3) := by decide +kernel
theorem d11_27 : decode prog_23_method_4_code 27 = .ok (.if_acmp .eq 13, 3) := by decide +kernel
set_option maxRecDepth 65536 in
set_option maxHeartbeats 40000000 in
theorem rm_enDONE (l : Launch) (Z : State) (a0 : Array Value) (hw : ∀ d ∈ tables_1, d.before a0 Z = true) (ws : List Jvm.Cond) {w_n2 : Addr} {w_n3 : Addr} {w_n4 : Addr} {w_n1 : Addr} {v_n0 : Int32} (W : Wd Z w_n2 w_n3 w_n4 w_n1 v_n0) (a1 : Addr) (ak : Addr) (u : Int32) (h0 : Heap) (n0 : Nat) (O0 : Old Z n0 h0) (g_a1 : n0 ≤ a1) (hf0 : Exa Z h0 a1 "com/example/tillwire/tillwire/HttpFraming$BodyReader") (hf1 : Fld Z h0 a1 "com/example/tillwire/tillwire/HttpFraming$BodyReader" "kept" "Ljava/io/ByteArrayOutputStream;" (.ref ak)) (hf2 : Fld Z h0 a1 "com/example/tillwire/tillwire/HttpFraming$BodyReader" "whole" "Z" (.int u)) (hf3 : Fld Z h0 a1 "com/example/tillwire/tillwire/HttpFraming$BodyReader" "part" "Lcom/example/tillwire/tillwire/HttpFraming$BodyReader$Part;" (.ref w_n3)) :
    MetFree l (⟨"com/example/tillwire/tillwire/HttpFraming$BodyReader", "end", "()V"⟩ : MethodName) (head1 (Jvm.Cond.code (⟨"com/example/tillwire/tillwire/HttpFraming$BodyReader", "end", "()V"⟩ : MethodName) prog_23_method_4_code 1 none :: ws) ({ frames := 0, cells := 0, slots := 0, locals := 0 } : Room)) (fun a U => a = #[(.ref a1)] ∧ Z.Warmed39 U.vm ∧ U.heap = h0) (fun _ _ _ _ _ => True) (fun _ U o U' => ∃ v L, o = .returned v ∧ QW (fun v h => v = none ∧ Keep h0 h [a1] ∧ Exa Z h a1 "com/example/tillwire/tillwire/HttpFraming$BodyReader" ∧ Fld Z h a1 "com/example/tillwire/tillwire/HttpFraming$BodyReader" "kept" "Ljava/io/ByteArrayOutputStream;" (.ref ak) ∧ Fld Z h a1 "com/example/tillwire/tillwire/HttpFraming$BodyReader" "whole" "Z" (.int u) ∧ Fld Z h a1 "com/example/tillwire/tillwire/HttpFraming$BodyReader" "part" "Lcom/example/tillwire/tillwire/HttpFraming$BodyReader$Part;" (.ref w_n3)) n0 v U'.heap L ∧ FrameEnd U o U' L ({ frames := 0, cells := 0, slots := 0, locals := 0 } : Room).cells ({ frames := 0, cells := 0, slots := 0, locals := 0 } : Room).slots) := by
  have W' := W; obtain ⟨S_n2, E_n2, S_n3, E_n3, S_n4, E_n4, S_n1, E_n1, S_n0, N_n0, F_n2_ordinal, F_n3_ordinal⟩ := W'
  refine MetFree.of_bodySF (plainFor_of_name pn_11) hisR ?_
  intro p e s m args below meth c s₁ Bd hml0 hP hK
  obtain ⟨rfl, hZ, hh⟩ := hP
  have hx := Bd.exec
  have hby := Bd.bytes
  have hml : c.maxLocals = 1 := hml0
  have hown : s.vm.findClass "com/example/tillwire/tillwire/HttpFraming$BodyReader" = some m.cls := findClass_of_methodNamed Bd.named
  have hnm := (name_of_methodNamed Bd.named Bd.method).1
  have X0 : Stand p l e ({ frames := 0, cells := 0, slots := 0, locals := 0 } : Room) s m #[(.ref a1)] below meth c s₁ [] 0 0 := Stand.of_body Bd
  have e0 : s₁.heap = h0 := by rw [← hh, Bd.state]; rfl
  have N0 := Fr.nil n0
  have pre0 : ∀ t, Steps p.tables e below (s₁.setTop (mkF m 0 #[.val (.ref a1)] [])) t → Steps p.tables e below (s₁.setTop (entryFrame m #[(.ref a1)] 1)) t := fun t k => castTop (ef_11_13 m a1) k
  obtain ⟨T1, X1, e1, st1⟩ := getF X0 hx hZ hown (host := "") (Or.inl (hw _ (List.mem_of_getElem? (i := 76) rfl))) Via.refl e0 hf3 (g := (mkF m 1 #[.val (.ref a1)] [(.ref a1)])) rfl rfl (hb hby d11_1)
  obtain ⟨T2, X2, e2, st2⟩ := getS2 X1 hx hZ hown (host := "") (Or.inl (hw _ (List.mem_of_getElem? (i := 73) rfl))) Via.refl e1 (S_n2.ext O0.2) (g := (mkF m 4 #[.val (.ref a1)] [(.ref w_n3)])) rfl (hb hby d11_4)
  obtain ⟨T3, X3, e3, st3⟩ := getF X2 hx hZ hown (host := "") (Or.inl (hw _ (List.mem_of_getElem? (i := 76) rfl))) Via.refl e2 hf3 (g := (mkF m 21 #[.val (.ref a1)] [(.ref a1)])) rfl rfl (hb hby d11_21)
  obtain ⟨T4, X4, e4, st4⟩ := getS2 X3 hx hZ hown (host := "") (Or.inl (hw _ (List.mem_of_getElem? (i := 83) rfl))) Via.refl e3 (S_n3.ext O0.2) (g := (mkF m 24 #[.val (.ref a1)] [(.ref w_n3)])) rfl (hb hby d11_24)
  obtain ⟨fs, hr, hrun, hended, hW, hsame⟩ := X4.leave (v := none) (fun _ => rfl)
  refine ⟨_, _, pre0 _ ?_, hrun, hended, _, _, rfl, ?_, ⟨_, rfl⟩, hW, hsame.mono (by decide) (by decide)⟩
  · show Steps p.tables e below (s₁.setTop (mkF m 0 #[.val (.ref a1)] [])) _
    refine XS.aloadN X0.here hx rfl (hb hby d11_0) rfl rfl ?_
    show Steps p.tables e below (s₁.setTop (mkF m 1 #[.val (.ref a1)] [(.ref a1)])) _
    refine st1 _ ?_
    show Steps p.tables e below (T1.setTop (mkF m 4 #[.val (.ref a1)] [(.ref w_n3)])) _
    refine st2 _ ?_
    show Steps p.tables e below (T2.setTop (mkF m 7 #[.val (.ref a1)] [(.ref w_n2), (.ref w_n3)])) _
    refine Jvm.RoadKit.acmp (g := (mkF m 7 #[.val (.ref a1)] [(.ref w_n2), (.ref w_n3)])) X2 hx rfl rfl rfl (pc0 := 7) (pc' := 20) (same := false) rfl (hb hby d11_7) rfl (decide_eq_false fun q => (Fld.ne F_n3_ordinal F_n2_ordinal (fun q => absurd (Value.int.inj q) (by decide))) (Value.ref.inj q)) (by decide) (by decide) ?_
    show Steps p.tables e below (T2.setTop (mkF m 20 #[.val (.ref a1)] [])) _
    refine XS.aloadN X2.here hx rfl (hb hby d11_20) rfl rfl ?_
    show Steps p.tables e below (T2.setTop (mkF m 21 #[.val (.ref a1)] [(.ref a1)])) _
    refine st3 _ ?_
    show Steps p.tables e below (T3.setTop (mkF m 24 #[.val (.ref a1)] [(.ref w_n3)])) _
    refine st4 _ ?_
    show Steps p.tables e below (T4.setTop (mkF m 27 #[.val (.ref a1)] [(.ref w_n3), (.ref w_n3)])) _
    refine Jvm.RoadKit.acmp (g := (mkF m 27 #[.val (.ref a1)] [(.ref w_n3), (.ref w_n3)])) X4 hx rfl rfl rfl (pc0 := 27) (pc' := 40) (same := true) rfl (hb hby d11_27) rfl (decide_eq_true rfl) (by decide) (by decide) ?_
    show Steps p.tables e below (T4.setTop (mkF m 40 #[.val (.ref a1)] [])) _
    exact X4.returnOut hx Bd.returns (hb hby d11_40) hr
  · show QW (fun v h => v = none ∧ Keep h0 h [a1] ∧ Exa Z h a1 "com/example/tillwire/tillwire/HttpFraming$BodyReader" ∧ Fld Z h a1 "com/example/tillwire/tillwire/HttpFraming$BodyReader" "kept" "Ljava/io/ByteArrayOutputStream;" (.ref ak) ∧ Fld Z h a1 "com/example/tillwire/tillwire/HttpFraming$BodyReader" "whole" "Z" (.int u) ∧ Fld Z h a1 "com/example/tillwire/tillwire/HttpFraming$BodyReader" "part" "Lcom/example/tillwire/tillwire/HttpFraming$BodyReader$Part;" (.ref w_n3)) n0 _ T4.heap _
    rw [e4]
    exact ⟨N0, ⟨rfl, (Keep.refl h0 [a1]), hf0, hf1, hf2, hf3⟩⟩
theorem d13_0 : decode jdk_65_method_121_code 0 = .ok (.iload_n 1, 1) := by decide +kernel
theorem d13_1 : decode jdk_65_method_121_code 1 = .ok (.aload_n 0, 1) := by decide +kernel
theorem d13_2 : decode jdk_65_method_121_code 2 = .ok (.arraylength, 1) := by decide +kernel
theorem d13_3 : decode jdk_65_method_121_code 3 = .ok (.if_icmp .ne 11, 3) := by decide +kernel
theorem d13_14 : decode jdk_65_method_121_code 14 = .ok (.iload_n 1, 1) := by decide +kernel
theorem d13_15 : decode jdk_65_method_121_code 15 = .ok (.newarray .byte, 2) := by decide +kernel
theorem d13_17 : decode jdk_65_method_121_code 17 = .ok (.astore_n 2, 1) := by decide +kernel
theorem d13_18 : decode jdk_65_method_121_code 18 = .ok (.aload_n 0, 1) := by decide +kernel
theorem d13_19 : decode jdk_65_method_121_code 19 = .ok (.iconst 0, 1) := by decide +kernel
theorem d13_20 : decode jdk_65_method_121_code 20 = .ok (.aload_n 2, 1) := by decide +kernel
theorem d13_21 : decode jdk_65_method_121_code 21 = .ok (.iconst 0, 1) := by decide +kernel
theorem d13_22 : decode jdk_65_method_121_code 22 = .ok (.aload_n 0, 1) := by decide +kernel
theorem d13_23 : decode jdk_65_method_121_code 23 = .ok (.arraylength, 1) := by decide +kernel
theorem d13_24 : decode jdk_65_method_121_code 24 = .ok (.iload_n 1, 1) := by decide +kernel
theorem d13_25 : decode jdk_65_method_121_code 25 = .ok (.invokestatic 304, 3) := by decide +kernel
theorem d13_28 : decode jdk_65_method_121_code 28 = .ok (.invokestatic 150, 3) := by decide +kernel
theorem d13_31 : decode jdk_65_method_121_code 31 = .ok (.aload_n 2, 1) := by decide +kernel
theorem d13_32 : decode jdk_65_method_121_code 32 = .ok (.areturn, 1) := by decide +kernel
theorem pd_3 : parseMethodDescriptor "(II)I" = some ⟨[.int, .int], some .int⟩ := by decide +kernel
theorem ef_13_14 (m : MethodId) (x0 : Addr) (x1 : Int32) : entryFrame m #[(.ref x0), (.int x1)] 3 = mkF m 0 #[.val (.ref x0), .val (.int x1), .unset] [] := by first | (simp [entryFrame, mkF, argsToLocals, Value.category]; done) | rfl
theorem pn_13 : plainName "java/util/Arrays" = true := by first | (simp [plainName, overriddenIn]; done) | decide +kernel
set_option maxRecDepth 65536 in
set_option maxHeartbeats 40000000 in
theorem rm_cp (l : Launch) (Z : State) (a0 : Array Value) (hw : ∀ d ∈ tables_1, d.before a0 Z = true) (ws : List Jvm.Cond) {w_n2 : Addr} {w_n3 : Addr} {w_n4 : Addr} {w_n1 : Addr} {v_n0 : Int32} (W : Wd Z w_n2 w_n3 w_n4 w_n1 v_n0) (a1 : Addr) (kk : ClassId) (h0 : Heap) (n0 : Nat) (O0 : Old Z n0 h0) (g_a1 : n0 ≤ a1) (hf0 : Arv Z h0 a1 kk .byte (32 : Int32) [] (.int (0 : Int32))) :
    MetFree l (⟨"java/util/Arrays", "copyOf", "([BI)[B"⟩ : MethodName) (head1 (Jvm.Cond.code (⟨"java/util/Arrays", "copyOf", "([BI)[B"⟩ : MethodName) jdk_65_method_121_code 3 (some (.array .byte)) :: ws) ({ frames := 1, cells := 1, slots := 0, locals := 18 } : Room)) (fun a U => a = #[(.ref a1), (.int (0 : Int32))] ∧ Z.Warmed39 U.vm ∧ U.heap = h0) (fun _ _ _ _ _ => True) (fun _ U o U' => ∃ v L, o = .returned v ∧ QW (fun v h => ∃ b2 : Addr, ∃ k2 : ClassId, v = some (.ref b2) ∧ Keep h0 h [] ∧ n0 ≤ b2 ∧ h0.size ≤ b2 ∧ Arv Z h b2 k2 .byte (0 : Int32) [] (.int (0 : Int32))) n0 v U'.heap L ∧ FrameEnd U o U' L ({ frames := 1, cells := 1, slots := 0, locals := 18 } : Room).cells ({ frames := 1, cells := 1, slots := 0, locals := 18 } : Room).slots) := by
  have W' := W; obtain ⟨S_n2, E_n2, S_n3, E_n3, S_n4, E_n4, S_n1, E_n1, S_n0, N_n0, F_n2_ordinal, F_n3_ordinal⟩ := W'
  refine MetFree.of_bodySF (plainFor_of_name pn_13) hisR ?_
  intro p e s m args below meth c s₁ Bd hml0 hP hK
  obtain ⟨rfl, hZ, hh⟩ := hP
  have hx := Bd.exec
  have hby := Bd.bytes
  have hml : c.maxLocals = 3 := hml0
  have hown : s.vm.findClass "java/util/Arrays" = some m.cls := findClass_of_methodNamed Bd.named
  have hnm := (name_of_methodNamed Bd.named Bd.method).1
  have X0 : Stand p l e ({ frames := 1, cells := 1, slots := 0, locals := 18 } : Room) s m #[(.ref a1), (.int (0 : Int32))] below meth c s₁ [] 0 0 := Stand.of_body Bd
  have e0 : s₁.heap = h0 := by rw [← hh, Bd.state]; rfl
  have N0 := Fr.nil n0
  have pre0 : ∀ t, Steps p.tables e below (s₁.setTop (mkF m 0 #[.val (.ref a1), .val (.int (0 : Int32)), .unset] [])) t → Steps p.tables e below (s₁.setTop (entryFrame m #[(.ref a1), (.int (0 : Int32))] 3)) t := fun t k => castTop (ef_13_14 m a1 (0 : Int32)) k
  obtain ⟨cl1, Ar1, qk1, Sz1, Nz1, Hs1, Gs1⟩ := id hf0
  obtain ⟨T2, h2, k2, X2, e2, E2, A2, B2, st2⟩ := newPE X0 hx hZ (hw _ (List.mem_of_getElem? (i := 28) rfl)) e0 (g := (mkF m 15 #[.val (.ref a1), .val (.int (0 : Int32)), .unset] [(.int (0 : Int32))])) rfl (hb hby d13_15) rfl (by decide) (cap := 0) (by decide) (by decide) (by decide) (by decide) (ad := "[B") (by decide)
  obtain ⟨b2, g2⟩ : ∃ z, z = h0.size := ⟨_, rfl⟩
  rw [← g2] at A2 B2 st2
  have lt_a1_b2 : a1 < h0.size := (hf0).lt
  have g_b2 : n0 ≤ b2 := by rw [g2]; exact O0.1 ▸ O0.2.1
  have sz_b2 : h0.size ≤ b2 := by rw [g2]; exact (Keep.refl h0 []).1
  have f2_0 : Arv Z h2 a1 kk .byte (32 : Int32) [] (.int (0 : Int32)) := (hf0).ext E2
  have O2 := O0.ext E2
  have K2 : Keep h0 h2 [] := (Keep.refl h0 []).ext E2
  have fv2 : Arv Z h2 b2 k2 .byte (0 : Int32) [] (.int (0 : Int32)) := (Arv.new A2 (by decide)).pad (pad_rep [] (.int (0 : Int32)) 0)
  obtain ⟨cl3, Ar3, qk3, Sz3, Nz3, Hs3, Gs3⟩ := id f2_0
  obtain ⟨_, _, ⟨T4, L4, k4, n4⟩, -, X4, ⟨Lc4, hQ4, l4, y4, z4⟩, st4⟩ := Jvm.LawKit.callS X2 hx (y := (⟨"java/lang/Math", "min", "(II)I"⟩ : MethodName)) hown (mvT hZ (hw _ (List.mem_of_getElem? (i := 111) rfl))) (mvT hZ (hw _ (List.mem_of_getElem? (i := 112) rfl))) (mvT hZ (hw _ (List.mem_of_getElem? (i := 113) rfl))) (mvT hZ (hw _ (List.mem_of_getElem? (i := 114) rfl))) (by decide) (backOf (W := 4) (rm_minI l Z a0 hw [] W  h2 n0 O2 ) hZ (hw _ (List.mem_of_getElem? (i := 114) rfl)) (hw _ (List.mem_of_getElem? (i := 113) rfl)) (by decide) (by decide)) (g := (mkF m 25 #[.val (.ref a1), .val (.int (0 : Int32)), .val (.ref b2)] [(.int (0 : Int32)), (.int (32 : Int32)), (.int (0 : Int32)), (.ref b2), (.int (0 : Int32)), (.ref a1)])) rfl (by rw [hml]; rfl) (argsL := [(.int (32 : Int32)), (.int (0 : Int32))]) (rest := [(.int (0 : Int32)), (.ref b2), (.int (0 : Int32)), (.ref a1)]) (lenOf pd_3 rfl) rfl (by show 2 * 0 + _ ≤ _; exact Nat.le_of_eq rfl) (hb hby d13_25) (fun _ _ => ⟨rfl, e2, (by decide : 1 + 0 ≤ _), (by decide : 0 + 0 ≤ _)⟩)
  dsimp only [Pt.U, Pt.locs, Pt.cells, Pt.slots] at X4 l4 y4 z4 st4 hQ4
  subst l4 y4 z4
  obtain ⟨rfl, N4q, e4⟩ := hQ4
  have N4 := Fr.app N0 N4q
  obtain ⟨T5, h5, Lx5, X5, e5, N5, Kp5, fv5, st5⟩ := cpA X4 hx hZ hown (hw _ (List.mem_of_getElem? (i := 115) rfl)) (hw _ (List.mem_of_getElem? (i := 118) rfl)) (hw _ (List.mem_of_getElem? (i := 116) rfl)) (hw _ (List.mem_of_getElem? (i := 117) rfl)) e4 (us := []) f2_0 fv2 (Or.inl ⟨rfl, rfl⟩) (by decide) (by decide) (by decide) (by decide) (by decide) rfl (by decide) N4 g_b2 (g := (mkF m 28 #[.val (.ref a1), .val (.int (0 : Int32)), .val (.ref b2)] [(.int (0 : Int32)), (.int (0 : Int32)), (.ref b2), (.int (0 : Int32)), (.ref a1)])) rfl (by rw [hml]; rfl) rfl (hb hby d13_28) (by decide) (W := 0) (by show 2 * 0 + _ ≤ _; exact Nat.le_of_eq rfl) (by decide)
  have f5_0 : Arv Z h5 a1 kk .byte (32 : Int32) [] (.int (0 : Int32)) := (f2_0).keep Kp5 (ninS (Nat.ne_of_lt (Nat.lt_of_lt_of_le lt_a1_b2 (Nat.le_of_eq g2.symm))) nin0)
  have f5_1 : Exa Z h5 b2 "[B" := (B2).keep Kp5
  have O5 := O2.keep Kp5 (allS g_b2 all0)
  have fw5 : Arv Z h5 b2 k2 .byte (0 : Int32) [] (.int (0 : Int32)) := fv5
  have K5 : Keep h0 h5 [] := K2.trans Kp5 (allS (Or.inr sz_b2) all0)
  obtain ⟨fs, hr, hrun, hended, hW, hsame⟩ := X5.leave (v := some (.ref b2)) (fun h => by rw [Bd.returns] at h; cases h)
  refine ⟨_, _, pre0 _ ?_, hrun, hended, _, _, rfl, ?_, ⟨_, rfl⟩, hW, hsame.mono (by decide) (by decide)⟩
  · show Steps p.tables e below (s₁.setTop (mkF m 0 #[.val (.ref a1), .val (.int (0 : Int32)), .unset] [])) _
    refine XS.iloadN X0.here hx rfl (hb hby d13_0) rfl ?_
    show Steps p.tables e below (s₁.setTop (mkF m 1 #[.val (.ref a1), .val (.int (0 : Int32)), .unset] [(.int (0 : Int32))])) _
    refine XS.aloadN X0.here hx rfl (hb hby d13_1) rfl rfl ?_
    show Steps p.tables e below (s₁.setTop (mkF m 2 #[.val (.ref a1), .val (.int (0 : Int32)), .unset] [(.ref a1), (.int (0 : Int32))])) _
    refine X0.arraylength hx (by rw [e0]; exact Ar1.1) (State.isArrayOf_alike hZ.alike Ar1.2.1) (g := (mkF m 2 #[.val (.ref a1), .val (.int (0 : Int32)), .unset] [(.ref a1), (.int (0 : Int32))])) rfl rfl (hb hby d13_2) _ ?_
    rw [len_of Sz1 Nz1]
    show Steps p.tables e below (s₁.setTop (mkF m 3 #[.val (.ref a1), .val (.int (0 : Int32)), .unset] [(.int (32 : Int32)), (.int (0 : Int32))])) _
    refine XS.icmpYes X0.here hx rfl (pc0 := 3) (pc' := 14) rfl (hb hby d13_3) rfl (feq ((by decide) : ¬ ((0 : Int32) = (32 : Int32)))).2 (by decide) (by decide) ?_
    show Steps p.tables e below (s₁.setTop (mkF m 14 #[.val (.ref a1), .val (.int (0 : Int32)), .unset] [])) _
    refine XS.iloadN X0.here hx rfl (hb hby d13_14) rfl ?_
    show Steps p.tables e below (s₁.setTop (mkF m 15 #[.val (.ref a1), .val (.int (0 : Int32)), .unset] [(.int (0 : Int32))])) _
    refine st2 _ ?_
    show Steps p.tables e below (T2.setTop (mkF m 17 #[.val (.ref a1), .val (.int (0 : Int32)), .unset] [(.ref b2)])) _
    refine XS.astoreN X2.here hx rfl (hb hby d13_17) rfl rfl (l' := #[.val (.ref a1), .val (.int (0 : Int32)), .val (.ref b2)]) rfl ?_
    show Steps p.tables e below (T2.setTop (mkF m 18 #[.val (.ref a1), .val (.int (0 : Int32)), .val (.ref b2)] [])) _
    refine XS.aloadN X2.here hx rfl (hb hby d13_18) rfl rfl ?_
    show Steps p.tables e below (T2.setTop (mkF m 19 #[.val (.ref a1), .val (.int (0 : Int32)), .val (.ref b2)] [(.ref a1)])) _
    refine XS.iconst X2.here hx rfl (hb hby d13_19) ?_
    show Steps p.tables e below (T2.setTop (mkF m 20 #[.val (.ref a1), .val (.int (0 : Int32)), .val (.ref b2)] [(.int (0 : Int32)), (.ref a1)])) _
    refine XS.aloadN X2.here hx rfl (hb hby d13_20) rfl rfl ?_
    show Steps p.tables e below (T2.setTop (mkF m 21 #[.val (.ref a1), .val (.int (0 : Int32)), .val (.ref b2)] [(.ref b2), (.int (0 : Int32)), (.ref a1)])) _
    refine XS.iconst X2.here hx rfl (hb hby d13_21) ?_
    show Steps p.tables e below (T2.setTop (mkF m 22 #[.val (.ref a1), .val (.int (0 : Int32)), .val (.ref b2)] [(.int (0 : Int32)), (.ref b2), (.int (0 : Int32)), (.ref a1)])) _
    refine XS.aloadN X2.here hx rfl (hb hby d13_22) rfl rfl ?_
    show Steps p.tables e below (T2.setTop (mkF m 23 #[.val (.ref a1), .val (.int (0 : Int32)), .val (.ref b2)] [(.ref a1), (.int (0 : Int32)), (.ref b2), (.int (0 : Int32)), (.ref a1)])) _
    refine X2.arraylength hx (by rw [e2]; exact Ar3.1) (State.isArrayOf_alike hZ.alike Ar3.2.1) (g := (mkF m 23 #[.val (.ref a1), .val (.int (0 : Int32)), .val (.ref b2)] [(.ref a1), (.int (0 : Int32)), (.ref b2), (.int (0 : Int32)), (.ref a1)])) rfl rfl (hb hby d13_23) _ ?_
    rw [len_of Sz3 Nz3]
    show Steps p.tables e below (T2.setTop (mkF m 24 #[.val (.ref a1), .val (.int (0 : Int32)), .val (.ref b2)] [(.int (32 : Int32)), (.int (0 : Int32)), (.ref b2), (.int (0 : Int32)), (.ref a1)])) _
    refine XS.iloadN X2.here hx rfl (hb hby d13_24) rfl ?_
    show Steps p.tables e below (T2.setTop (mkF m 25 #[.val (.ref a1), .val (.int (0 : Int32)), .val (.ref b2)] [(.int (0 : Int32)), (.int (32 : Int32)), (.int (0 : Int32)), (.ref b2), (.int (0 : Int32)), (.ref a1)])) _
    refine st4 _ ?_
    show Steps p.tables e below (T4.setTop (mkF m 28 #[.val (.ref a1), .val (.int (0 : Int32)), .val (.ref b2)] [(.int (0 : Int32)), (.int (0 : Int32)), (.ref b2), (.int (0 : Int32)), (.ref a1)])) _
    refine st5 _ ?_
    show Steps p.tables e below (T5.setTop (mkF m 31 #[.val (.ref a1), .val (.int (0 : Int32)), .val (.ref b2)] [])) _
    refine XS.aloadN X5.here hx rfl (hb hby d13_31) rfl rfl ?_
    show Steps p.tables e below (T5.setTop (mkF m 32 #[.val (.ref a1), .val (.int (0 : Int32)), .val (.ref b2)] [(.ref b2)])) _
    jvm_step X5.here [X5.here.top, hx, (hb hby d13_32), X5.method', Bd.returns, Value.isRef, FieldType.isReference]
    first | (intro acts; rw [hr _ acts rfl rfl rfl]) | rw [hr _ _ rfl rfl rfl]
    exact Steps.refl _
  · show QW (fun v h => ∃ b2 : Addr, ∃ k2 : ClassId, v = some (.ref b2) ∧ Keep h0 h [] ∧ n0 ≤ b2 ∧ h0.size ≤ b2 ∧ Arv Z h b2 k2 .byte (0 : Int32) [] (.int (0 : Int32))) n0 _ T5.heap _
    rw [e5]
    exact ⟨N5, ⟨b2, k2, rfl, K5, g_b2, sz_b2, fw5⟩⟩
theorem dtb_0 : decode jdk_2005_method_9_code 0 = .ok (.aload_n 0, 1) := by decide +kernel
theorem dtb_1 : decode jdk_2005_method_9_code 1 = .ok (.getfield 33, 3) := by decide +kernel
theorem dtb_4 : decode jdk_2005_method_9_code 4 = .ok (.aload_n 0, 1) := by decide +kernel
theorem dtb_5 : decode jdk_2005_method_9_code 5 = .ok (.getfield 49, 3) := by decide +kernel
theorem dtb_8 : decode jdk_2005_method_9_code 8 = .ok (.invokestatic 43, 3) := by decide +kernel
theorem dtb_11 : decode jdk_2005_method_9_code 11 = .ok (.areturn, 1) := by decide +kernel
theorem pd_4 : parseMethodDescriptor "([BI)[B" = some ⟨[(.array .byte), .int], some (.array .byte)⟩ := by decide +kernel
theorem own_arvmon {Z : State} {h h' : Heap} {a : Addr} {k : ClassId} {ty : FieldType} {z : Int32} {vs : List Value} {d : Value} (F : Arv Z h a k ty z vs d) (M : Mon h h') : Arv Z h' a k ty z vs d := by
  obtain ⟨c, A, q1, q2, q3, q4, q5⟩ := F
  obtain ⟨mo, q⟩ := M.2 _ _ A.1
  exact ⟨_, ⟨q, A.2.1, A.2.2⟩, q1, q2, q3, q4, q5⟩
theorem own_backS {p : Program} {l : Launch} {e : Env} {R : Room} {s : State} {args : Array Value} {below : List Frame} {Z : State} {a0 : Array Value} {h : Heap} {y : MethodName} {bytes : ByteArray} {maxL : Nat} {ret : Option FieldType} {rm : Room} {len W : Nat} {as' : Array Value} {a1 : Addr} {Q : Option Value → Heap → List Loc → Prop}
    (hM : MetFree l y (head1 (Jvm.Cond.codeSync y bytes maxL ret :: [Jvm.Cond.instanceMethod y]) rm) (fun a U => a = as' ∧ Z.Warmed39 U.vm ∧ U.heap = h ∧ ∃ cell : Cell, h[a1]? = some cell ∧ cell.enterable U.cur) (fun _ _ _ _ _ => True) (fun _ U o U' => ∃ v L, o = .returned v ∧ Q v U'.heap L ∧ FrameEnd U o U' L rm.cells rm.slots))
    (hZ : Z.Warmed39 s.vm) (wc : (Jvm.Cond.codeSync y bytes maxL ret).before a0 Z = true) (wi : (Jvm.Cond.instanceMethod y).before a0 Z = true) (wz : (Jvm.Cond.initialized y.cls).before a0 Z = true) (N : Unt h a1) (hf : rm.frames + 1 ≤ R.frames) (hl : W + (maxL + 11) + rm.locals ≤ R.locals) :
    Back l R p e below s args y len W (fun A a => a = as' ∧ A.U.heap = h ∧ A.cells + rm.cells ≤ R.cells ∧ A.slots + rm.slots ≤ R.slots)
      (fun A _ v B => ∃ L, Q v B.U.heap L ∧ B.locs = A.locs ++ L ∧ B.cells = A.cells + rm.cells ∧ B.slots = A.slots + rm.slots) :=
  Jvm.Free.XT.back_of_sync (bytes := bytes) (maxL := maxL) (ret := ret) (E := fun _ _ o t L k n => k = rm.cells ∧ n = rm.slots ∧ ∃ v, o = .returned v ∧ Q v t.heap L) hM hf hl
    (fun m meth c A as Y hp => have hU : Z.Warmed39 A.U.vm := wtrans hZ Y.warmed
      ⟨by show (Jvm.Cond.and _ (Jvm.Cond.and _ .tt)).before as A.U = true; rw [Cond.before_and, Cond.before_and, mv hU wc, mv hU wi]; rfl, mv hU wc, mv hU wz, hp.2.2.1, hp.2.2.2⟩)
    (fun m meth c A as g mk Y hp => ⟨hp.1, wtrans hZ Y.warmed, hp.2.1, by obtain ⟨cl, u1, -, u3⟩ := N; exact ⟨cl, u1, by rw [Cell.enterable, u3]; simp⟩⟩)
    (fun _ _ _ _ _ _ _ _ _ => trivial)
    (fun _ _ _ _ ⟨v, L, h1, h2, h3⟩ => ⟨L, _, _, h3, rfl, rfl, v, h1, h2⟩)
    (fun m meth c A as g mk v t L k n Y hp _ _ ⟨e1, e2, v', e3, e4⟩ => by cases e3; subst e1 e2; exact ⟨L, e4, rfl, rfl, rfl⟩)
set_option maxRecDepth 65536 in
set_option maxHeartbeats 40000000 in
theorem rm_tb (l : Launch) (Z : State) (a0 : Array Value) (hw : ∀ d ∈ tables_1, d.before a0 Z = true) {w_n2 : Addr} {w_n3 : Addr} {w_n4 : Addr} {w_n1 : Addr} {v_n0 : Int32} (W : Wd Z w_n2 w_n3 w_n4 w_n1 v_n0) (a1 a2 : Addr) (kk : ClassId) (h0 : Heap) (n0 : Nat) (O0 : Old Z n0 h0) (g_a1 : n0 ≤ a1) (g_a2 : n0 ≤ a2) (F1 : Fld Z h0 a1 "java/io/ByteArrayOutputStream" "buf" "[B" (.ref a2)) (F2 : Fld Z h0 a1 "java/io/ByteArrayOutputStream" "count" "I" (.int (0 : Int32))) (V1 : Arv Z h0 a2 kk .byte (32 : Int32) [] (.int (0 : Int32))) :
    MetFree l (⟨"java/io/ByteArrayOutputStream", "toByteArray", "()[B"⟩ : MethodName) (head1 (Jvm.Cond.codeSync (⟨"java/io/ByteArrayOutputStream", "toByteArray", "()[B"⟩ : MethodName) jdk_2005_method_9_code 1 (some (.array .byte)) :: [Jvm.Cond.instanceMethod (⟨"java/io/ByteArrayOutputStream", "toByteArray", "()[B"⟩ : MethodName)]) ({ frames := 2, cells := 1, slots := 0, locals := 34 } : Room)) (fun a U => a = #[(.ref a1)] ∧ Z.Warmed39 U.vm ∧ U.heap = h0 ∧ ∃ cell : Cell, h0[a1]? = some cell ∧ cell.enterable U.cur) (fun _ _ _ _ _ => True) (fun _ U o U' => ∃ v L, o = .returned v ∧ (QW (fun v h => ∃ (b : Addr) (k : ClassId), v = some (.ref b) ∧ n0 ≤ b ∧ Arv Z h b k .byte (0 : Int32) [] (.int (0 : Int32))) n0) v U'.heap L ∧ FrameEnd U o U' L ({ frames := 2, cells := 1, slots := 0, locals := 34 } : Room).cells ({ frames := 2, cells := 1, slots := 0, locals := 34 } : Room).slots) := by
  refine MetFree.of_bodySync (by decide) (hisS (List.mem_cons_self ..)) (fun _ s _ ⟨h1, _, h2, cl, h3, h4⟩ => ⟨a1, cl, by rw [h1]; rfl, by rw [h2]; exact h3, h4⟩) ?_
  intro p e s0 m args below meth c a' cell s₁ Bd hml0 hP _
  obtain ⟨rfl, hZ0, hh0, -⟩ := hP
  cases Bd.receiver
  subst hh0
  have hx := Bd.exec
  have hby : c.code = jdk_2005_method_9_code := Bd.bytes
  have hml : c.maxLocals = 1 := hml0
  have X0 : Stand p l e ({ frames := 2, cells := 1, slots := 0, locals := 34 } : Room) (s0.setCell a1 (cell.withEntry s0.cur)) m _ below meth c s₁ [] 0 0 := Stand.of_bodySync Bd
  have hZ : Z.Warmed39 (s0.setCell a1 (cell.withEntry s0.cur)).vm := hZ0
  have hown : (s0.setCell a1 (cell.withEntry s0.cur)).vm.findClass "java/io/ByteArrayOutputStream" = some m.cls := (findClass_of_methodNamed Bd.named :)
  have M0 : Mon s0.heap s₁.heap := by rw [Bd.state]; exact mon_set Bd.object _
  have O1 : Old Z n0 s₁.heap := by
    refine ⟨O0.1, Nat.le_trans O0.2.1 (Nat.le_of_eq M0.1.symm), fun x c hx => ?_⟩
    have q : a1 ≠ x := fun z => Nat.not_lt.mpr g_a1 (by rw [z, ← O0.1]; exact (Array.getElem?_eq_some_iff.mp hx).1)
    rw [Bd.state]
    show (s0.heap.setIfInBounds a1 _)[x]? = some c
    rw [Array.getElem?_setIfInBounds_ne q]; exact O0.2.2 x c hx
  have N0 := Fr.nil n0
  obtain ⟨T1, X1, e1, st1⟩ := getF X0 hx hZ hown (host := "") (Or.inl (hw _ (List.mem_of_getElem? (i := 29) rfl))) Via.refl rfl (F1.mon M0) (g := mkL a1 m 1 #[.val (.ref a1)] [.ref a1]) (rest := []) rfl rfl (hb hby dtb_1)
  obtain ⟨T2, X2, e2, st2⟩ := getF X1 hx hZ hown (host := "") (Or.inl (hw _ (List.mem_of_getElem? (i := 105) rfl))) Via.refl e1 (F2.mon M0) (g := mkL a1 m 5 #[.val (.ref a1)] [.ref a1, .ref a2]) (rest := [.ref a2]) rfl rfl (hb hby dtb_5)
  obtain ⟨_, _, ⟨T3, L3, k3, n3⟩, -, X3, ⟨Lc3, hQ3, l3, y3, z3⟩, st3⟩ := Jvm.LawKit.callS X2 hx (y := (⟨"java/util/Arrays", "copyOf", "([BI)[B"⟩ : MethodName)) hown (mvT hZ (hw _ (List.mem_of_getElem? (i := 107) rfl))) (mvT hZ (hw _ (List.mem_of_getElem? (i := 108) rfl))) (mvT hZ (hw _ (List.mem_of_getElem? (i := 109) rfl))) (mvT hZ (hw _ (List.mem_of_getElem? (i := 110) rfl))) (by decide) (backOf (W := 2) (rm_cp l Z a0 hw [] W a2 kk s₁.heap n0 O1 g_a2 (own_arvmon V1 M0)) hZ (hw _ (List.mem_of_getElem? (i := 110) rfl)) (hw _ (List.mem_of_getElem? (i := 109) rfl)) (by decide) (by decide)) (g := mkL a1 m 8 #[.val (.ref a1)] [.int (0 : Int32), .ref a2]) rfl (by rw [hml]; rfl) (argsL := [.ref a2, .int (0 : Int32)]) (rest := []) (lenOf pd_4 rfl) rfl (by show 2 * 1 + _ ≤ _; exact Nat.le_of_eq rfl) (hb hby dtb_8) (fun _ _ => ⟨rfl, e2, (by decide : 0 + 1 ≤ _), (by decide : 0 + 0 ≤ _)⟩)
  dsimp only [Pt.U, Pt.locs, Pt.cells, Pt.slots] at X3 l3 y3 z3 st3 hQ3
  subst l3 y3 z3
  obtain ⟨N3q, b3, k4, rfl, K3, g3, si3, fp3⟩ := hQ3
  have N3 := Fr.app N0 N3q
  obtain ⟨V, hr, hrun, hended, M1, hW, hsame⟩ := leaveS X3 Bd.object Bd.enterable Bd.synchronized (v := some (.ref b3)) (fun h => by rw [Bd.returns] at h; cases h)
  refine ⟨V, _, ?_, hrun, hended, _, _, rfl, ?_, ⟨_, rfl⟩, hW, hsame.mono (by decide) (by decide)⟩
  · show Steps p.tables e below (s₁.setTop (mkL a1 m 0 #[.val (.ref a1)] [])) V
    refine XS.aloadN X0.here hx rfl (hb hby dtb_0) rfl rfl ?_
    refine st1 _ ?_
    refine XS.aloadN X1.here hx rfl (hb hby dtb_4) rfl rfl ?_
    refine st2 _ ?_
    refine st3 _ ?_
    exact retS X3 hx Bd.returns rfl (Or.inr (Or.inr (Or.inr (Or.inr ⟨rfl, rfl, rfl⟩)))) (hb hby dtb_11) hr
  · exact ⟨N3, b3, k4, rfl, g3, own_arvmon fp3 M1⟩
theorem d12_0 : decode prog_23_method_5_code 0 = .ok (.aload_n 0, 1) := by decide +kernel
theorem d12_1 : decode prog_23_method_5_code 1 = .ok (.getfield 12, 3) := by decide +kernel
theorem d12_4 : decode prog_23_method_5_code 4 = .ok (.invokevirtual 139, 3) := by decide +kernel
theorem d12_7 : decode prog_23_method_5_code 7 = .ok (.areturn, 1) := by decide +kernel
theorem pd_5 : parseMethodDescriptor "()[B" = some ⟨[], some (.array .byte)⟩ := by decide +kernel
theorem ef_12_15 (m : MethodId) (x0 : Addr) : entryFrame m #[(.ref x0)] 1 = mkF m 0 #[.val (.ref x0)] [] := by first | (simp [entryFrame, mkF, argsToLocals, Value.category]; done) | rfl
theorem pn_12 : plainName "com/example/tillwire/tillwire/HttpFraming$BodyReader" = true := by first | (simp [plainName, overriddenIn]; done) | decide +kernel
set_option maxRecDepth 65536 in
set_option maxHeartbeats 40000000 in
theorem rm_by (l : Launch) (Z : State) (a0 : Array Value) (hw : ∀ d ∈ tables_1, d.before a0 Z = true) (ws : List Jvm.Cond) {w_n2 : Addr} {w_n3 : Addr} {w_n4 : Addr} {w_n1 : Addr} {v_n0 : Int32} (W : Wd Z w_n2 w_n3 w_n4 w_n1 v_n0) (a1 : Addr) (ak : Addr) (ab : Addr) (kk : ClassId) (h0 : Heap) (n0 : Nat) (O0 : Old Z n0 h0) (g_a1 : n0 ≤ a1) (hf0 : Fld Z h0 a1 "com/example/tillwire/tillwire/HttpFraming$BodyReader" "kept" "Ljava/io/ByteArrayOutputStream;" (.ref ak)) (g_ak : n0 ≤ ak) (hf1 : Exa Z h0 ak "java/io/ByteArrayOutputStream") (hf2 : Unt h0 ak) (hf3 : Fld Z h0 ak "java/io/ByteArrayOutputStream" "buf" "[B" (.ref ab)) (hf4 : Fld Z h0 ak "java/io/ByteArrayOutputStream" "count" "I" (.int (0 : Int32))) (g_ab : n0 ≤ ab) (hf5 : Arv Z h0 ab kk .byte (32 : Int32) [] (.int (0 : Int32))) :
    MetFree l (⟨"com/example/tillwire/tillwire/HttpFraming$BodyReader", "bytes", "()[B"⟩ : MethodName) (head1 (Jvm.Cond.code (⟨"com/example/tillwire/tillwire/HttpFraming$BodyReader", "bytes", "()[B"⟩ : MethodName) prog_23_method_5_code 1 (some (.array .byte)) :: ws) ({ frames := 3, cells := 1, slots := 0, locals := 46 } : Room)) (fun a U => a = #[(.ref a1)] ∧ Z.Warmed39 U.vm ∧ U.heap = h0) (fun _ _ _ _ _ => True) (fun _ U o U' => ∃ v L, o = .returned v ∧ QW (fun v h => ∃ (b : Addr) (k : ClassId), v = some (.ref b) ∧ n0 ≤ b ∧ Arv Z h b k .byte (0 : Int32) [] (.int (0 : Int32))) n0 v U'.heap L ∧ FrameEnd U o U' L ({ frames := 3, cells := 1, slots := 0, locals := 46 } : Room).cells ({ frames := 3, cells := 1, slots := 0, locals := 46 } : Room).slots) := by
  have W' := W; obtain ⟨S_n2, E_n2, S_n3, E_n3, S_n4, E_n4, S_n1, E_n1, S_n0, N_n0, F_n2_ordinal, F_n3_ordinal⟩ := W'
  refine MetFree.of_bodySF (plainFor_of_name pn_12) hisR ?_
  intro p e s m args below meth c s₁ Bd hml0 hP hK
  obtain ⟨rfl, hZ, hh⟩ := hP
  have hx := Bd.exec
  have hby := Bd.bytes
  have hml : c.maxLocals = 1 := hml0
  have hown : s.vm.findClass "com/example/tillwire/tillwire/HttpFraming$BodyReader" = some m.cls := findClass_of_methodNamed Bd.named
  have hnm := (name_of_methodNamed Bd.named Bd.method).1
  have X0 : Stand p l e ({ frames := 3, cells := 1, slots := 0, locals := 46 } : Room) s m #[(.ref a1)] below meth c s₁ [] 0 0 := Stand.of_body Bd
  have e0 : s₁.heap = h0 := by rw [← hh, Bd.state]; rfl
  have N0 := Fr.nil n0
  have pre0 : ∀ t, Steps p.tables e below (s₁.setTop (mkF m 0 #[.val (.ref a1)] [])) t → Steps p.tables e below (s₁.setTop (entryFrame m #[(.ref a1)] 1)) t := fun t k => castTop (ef_12_15 m a1) k
  obtain ⟨T1, X1, e1, st1⟩ := getF X0 hx hZ hown (host := "") (Or.inl (hw _ (List.mem_of_getElem? (i := 31) rfl))) Via.refl e0 hf0 (g := (mkF m 1 #[.val (.ref a1)] [(.ref a1)])) rfl rfl (hb hby d12_1)
  obtain ⟨cq2, kq2, q2a, q2b, q2c⟩ := isOf hZ e1 hf1
  obtain ⟨_, _, ⟨T2, L2, k2, n2⟩, -, X2, ⟨Lc2, hQ2, l2, y2, z2⟩, st2⟩ := X1.virtualBack hx (y := (⟨"java/io/ByteArrayOutputStream", "toByteArray", "()[B"⟩ : MethodName)) (z := (⟨"java/io/ByteArrayOutputStream", "toByteArray", "()[B"⟩ : MethodName)) hown (mvT hZ (hw _ (List.mem_of_getElem? (i := 100) rfl))) (mvT hZ (hw _ (List.mem_of_getElem? (i := 101) rfl))) (notFace_of_selects (args := #[]) (mvT hZ (hw _ (List.mem_of_getElem? (i := 103) rfl)))) (mvT hZ (hw _ (List.mem_of_getElem? (i := 103) rfl))) (mvT hZ (hw _ (List.mem_of_getElem? (i := 102) rfl))) (by decide) (own_backS (W := 0) (rm_tb l Z a0 hw W ak ab kk h0 n0 O0 g_ak g_ab hf3 hf4 hf5) hZ (hw _ (List.mem_of_getElem? (i := 104) rfl)) (hw _ (List.mem_of_getElem? (i := 102) rfl)) (hw _ (List.mem_of_getElem? (i := 13) rfl)) hf2 (by decide) (by decide)) q2a q2c (g := (mkF m 4 #[.val (.ref a1)] [(.ref ak)])) rfl (by rw [hml]; rfl) (Steps.refl _) (argsL := []) (rest := []) (lenOf pd_5 rfl) rfl (by show 2 * 0 + _ ≤ _; exact Nat.le_of_eq rfl) (hb hby d12_4) (fun _ _ => ⟨rfl, e1, (by decide : 0 + 1 ≤ _), (by decide : 0 + 0 ≤ _)⟩)
  dsimp only [Pt.U, Pt.locs, Pt.cells, Pt.slots] at X2 l2 y2 z2 st2 hQ2
  subst l2 y2 z2
  obtain ⟨N2q, hP2⟩ := hQ2
  have N2 := Fr.app N0 N2q
  obtain ⟨b2, k2, rfl, g_b2, fv2⟩ := hP2
  obtain ⟨fs, hr, hrun, hended, hW, hsame⟩ := X2.leave (v := some (.ref b2)) (fun h => by rw [Bd.returns] at h; cases h)
  refine ⟨_, _, pre0 _ ?_, hrun, hended, _, _, rfl, ?_, ⟨_, rfl⟩, hW, hsame.mono (by decide) (by decide)⟩
  · show Steps p.tables e below (s₁.setTop (mkF m 0 #[.val (.ref a1)] [])) _
    refine XS.aloadN X0.here hx rfl (hb hby d12_0) rfl rfl ?_
    show Steps p.tables e below (s₁.setTop (mkF m 1 #[.val (.ref a1)] [(.ref a1)])) _
    refine st1 _ ?_
    show Steps p.tables e below (T1.setTop (mkF m 4 #[.val (.ref a1)] [(.ref ak)])) _
    refine st2.trans ?_
    show Steps p.tables e below (T2.setTop (mkF m 7 #[.val (.ref a1)] [(.ref b2)])) _
    jvm_step X2.here [X2.here.top, hx, (hb hby d12_7), X2.method', Bd.returns, Value.isRef, FieldType.isReference]
    first | (intro acts; rw [hr _ acts rfl rfl rfl]) | rw [hr _ _ rfl rfl rfl]
    exact Steps.refl _
  · show QW (fun v h => ∃ (b : Addr) (k : ClassId), v = some (.ref b) ∧ n0 ≤ b ∧ Arv Z h b k .byte (0 : Int32) [] (.int (0 : Int32))) n0 _ T2.heap _
    exact ⟨N2, b2, k2, rfl, g_b2, fv2⟩
theorem pd_6 : parseMethodDescriptor "(JIJ)V" = some ⟨[.long, .int, .long], none⟩ := by decide +kernel
theorem pd_7 : parseMethodDescriptor "()Z" = some ⟨[], some .boolean⟩ := by decide +kernel
theorem ef_0_16 (m : MethodId) (x0 : Int32) (x1 : Int32) (x2 : Int64) (x3 : Int64) : entryFrame m #[(.int x0), (.int x1), (.long x2), (.long x3)] maxLocals = mkF m 0 #[.val (.int x0), .val (.int x1), .val (.long x2), .second, .val (.long x3), .second, .unset, .unset, .unset, .unset, .unset, .unset, .unset, .unset, .unset, .unset, .unset, .unset, .unset] [] := by first | (simp [entryFrame, mkF, argsToLocals, Value.category, maxLocals]; done) | rfl
theorem pn_0 : plainName "com/example/tillwire/tillwire/BodyReaderEndPinLaw" = true := by first | (simp [plainName, overriddenIn]; done) | decide +kernel
set_option maxRecDepth 65536 in
set_option maxHeartbeats 40000000 in
theorem rm0_0 (l : Launch) (Z : State) (a0 : Array Value) (hw : ∀ d ∈ tables_1, d.before a0 Z = true) (ws : List Jvm.Cond) {w_n2 : Addr} {w_n3 : Addr} {w_n4 : Addr} {w_n1 : Addr} {v_n0 : Int32} (W : Wd Z w_n2 w_n3 w_n4 w_n1 v_n0) (p1 : Int32) (p2 : Int32) (q3 : Int64) (q4 : Int64) (h0 : Heap) (n0 : Nat) (O0 : Old Z n0 h0) (hk : ((p1 &&& (2147483647 : Int32)) % (3 : Int32)) = (0 : Int32)) :
    MetFree l x (head1 (Jvm.Cond.code x code maxLocals ret :: ws) room_1) (fun a U => a = #[(.int p1), (.int p2), (.long q3), (.long q4)] ∧ Z.Warmed39 U.vm ∧ U.heap = h0) (fun _ _ _ _ _ => True) (fun _ U o U' => ∃ v L, o = .returned v ∧ Q0 n0 v U'.heap L ∧ FrameEnd U o U' L room_1.cells room_1.slots) := by
  have W' := W; obtain ⟨S_n2, E_n2, S_n3, E_n3, S_n4, E_n4, S_n1, E_n1, S_n0, N_n0, F_n2_ordinal, F_n3_ordinal⟩ := W'
  refine MetFree.of_bodySF (plainFor_of_name pn_0) hisR ?_
  intro p e s m args below meth c s₁ Bd hml0 hP hK
  obtain ⟨rfl, hZ, hh⟩ := hP
  have hx := Bd.exec
  have hby := Bd.bytes
  have hml : c.maxLocals = 19 := hml0
  have hown : s.vm.findClass "com/example/tillwire/tillwire/BodyReaderEndPinLaw" = some m.cls := findClass_of_methodNamed Bd.named
  have hnm := (name_of_methodNamed Bd.named Bd.method).1
  have X0 : Stand p l e room_1 s m #[(.int p1), (.int p2), (.long q3), (.long q4)] below meth c s₁ [] 0 0 := Stand.of_body Bd
  have e0 : s₁.heap = h0 := by rw [← hh, Bd.state]; rfl
  have N0 := Fr.nil n0
  have pre0 : ∀ t, Steps p.tables e below (s₁.setTop (mkF m 0 #[.val (.int p1), .val (.int p2), .val (.long q3), .second, .val (.long q4), .second, .unset, .unset, .unset, .unset, .unset, .unset, .unset, .unset, .unset, .unset, .unset, .unset, .unset] [])) t → Steps p.tables e below (s₁.setTop (entryFrame m #[(.int p1), (.int p2), (.long q3), (.long q4)] maxLocals)) t := fun t k => castTop (ef_0_16 m p1 p2 q3 q4) k
  obtain ⟨T1, h1, X1, e1, E1, A1, D1, U1, st1⟩ := newO X0 hx hZ hown (hw _ (List.mem_of_getElem? (i := 2) rfl)) (hw _ (List.mem_of_getElem? (i := 3) rfl)) (hw _ (List.mem_of_getElem? (i := 4) rfl)) e0 (g := (mkF m 94 #[.val (.int p1), .val (.int p2), .val (.long q3), .second, .val (.long q4), .second, .val (.int (p2 &&& (2147483647 : Int32))), .val (.int (0 : Int32)), .val (.long q3), .second, .val (.long (-2 : Int64)), .second, .val (.int (1 : Int32)), .val (.int (0 : Int32)), .unset, .unset, .unset, .unset, .unset] [])) rfl (hb hby at_94) (by decide) (by decide)
  obtain ⟨b1, g1⟩ : ∃ z, z = h0.size := ⟨_, rfl⟩
  rw [← g1] at A1 D1 U1 st1
  have g_b1 : n0 ≤ b1 := by rw [g1]; exact O0.1 ▸ O0.2.1
  have O1 := O0.ext E1
  have f1_kept : Fld Z h1 b1 "com/example/tillwire/tillwire/HttpFraming$BodyReader" "kept" "Ljava/io/ByteArrayOutputStream;" .null := D1 (Or.inr (hw _ (List.mem_of_getElem? (i := 32) rfl))) (ty := (.object "java/io/ByteArrayOutputStream")) (by decide)
  have f1_line : Fld Z h1 b1 "com/example/tillwire/tillwire/HttpFraming$BodyReader" "line" "Lcom/example/tillwire/tillwire/HttpFraming$Line;" .null := D1 (Or.inr (hw _ (List.mem_of_getElem? (i := 62) rfl))) (ty := (.object "com/example/tillwire/tillwire/HttpFraming$Line")) (by decide)
  have f1_whole : Fld Z h1 b1 "com/example/tillwire/tillwire/HttpFraming$BodyReader" "whole" "Z" (.int (0 : Int32)) := D1 (Or.inl (hw _ (List.mem_of_getElem? (i := 64) rfl))) (ty := .boolean) (by decide)
  have f1_chunked : Fld Z h1 b1 "com/example/tillwire/tillwire/HttpFraming$BodyReader" "chunked" "Z" (.int (0 : Int32)) := D1 (Or.inr (hw _ (List.mem_of_getElem? (i := 67) rfl))) (ty := .boolean) (by decide)
  have f1_keep : Fld Z h1 b1 "com/example/tillwire/tillwire/HttpFraming$BodyReader" "keep" "I" (.int (0 : Int32)) := D1 (Or.inr (hw _ (List.mem_of_getElem? (i := 69) rfl))) (ty := .int) (by decide)
  have f1_skip : Fld Z h1 b1 "com/example/tillwire/tillwire/HttpFraming$BodyReader" "skip" "J" (.long (0 : Int64)) := D1 (Or.inr (hw _ (List.mem_of_getElem? (i := 71) rfl))) (ty := .long) (by decide)
  have f1_part : Fld Z h1 b1 "com/example/tillwire/tillwire/HttpFraming$BodyReader" "part" "Lcom/example/tillwire/tillwire/HttpFraming$BodyReader$Part;" .null := D1 (Or.inl (hw _ (List.mem_of_getElem? (i := 77) rfl))) (ty := (.object "com/example/tillwire/tillwire/HttpFraming$BodyReader$Part")) (by decide)
  have f1_passed : Fld Z h1 b1 "com/example/tillwire/tillwire/HttpFraming$BodyReader" "passed" "J" (.long (0 : Int64)) := D1 (Or.inl (hw _ (List.mem_of_getElem? (i := 123) rfl))) (ty := .long) (by decide)
  have f1_left : Fld Z h1 b1 "com/example/tillwire/tillwire/HttpFraming$BodyReader" "left" "J" (.long (0 : Int64)) := D1 (Or.inl (hw _ (List.mem_of_getElem? (i := 127) rfl))) (ty := .long) (by decide)
  have f1_skipped : Fld Z h1 b1 "com/example/tillwire/tillwire/HttpFraming$BodyReader" "skipped" "J" (.long (0 : Int64)) := D1 (Or.inl (hw _ (List.mem_of_getElem? (i := 133) rfl))) (ty := .long) (by decide)
  obtain ⟨_, _, ⟨T2, L2, k2, n2⟩, -, X2, ⟨Lc2, hQ2, l2, y2, z2⟩, st2⟩ := X1.specialBack hx (y := (⟨"com/example/tillwire/tillwire/HttpFraming$BodyReader", "<init>", "(JIJ)V"⟩ : MethodName)) rfl hown (mvT hZ (hw _ (List.mem_of_getElem? (i := 5) rfl))) (mvT hZ (hw _ (List.mem_of_getElem? (i := 6) rfl))) (mvT hZ (hw _ (List.mem_of_getElem? (i := 7) rfl))) (by decide) (backOf (W := 1) (rm_n0 l Z a0 hw [] W b1 (p2 &&& (2147483647 : Int32)) q3 h1 n0 O1 g_b1 A1 f1_kept f1_line f1_whole f1_chunked f1_keep f1_skip f1_part f1_passed f1_left f1_skipped) hZ (hw _ (List.mem_of_getElem? (i := 7) rfl)) (hw _ (List.mem_of_getElem? (i := 4) rfl)) (by decide) (by decide)) (g := (mkF m 104 #[.val (.int p1), .val (.int p2), .val (.long q3), .second, .val (.long q4), .second, .val (.int (p2 &&& (2147483647 : Int32))), .val (.int (0 : Int32)), .val (.long q3), .second, .val (.long (-2 : Int64)), .second, .val (.int (1 : Int32)), .val (.int (0 : Int32)), .unset, .unset, .unset, .unset, .unset] [(.long q3), (.int (p2 &&& (2147483647 : Int32))), (.long (-2 : Int64)), (.ref b1), (.ref b1)])) rfl (by rw [hml]; rfl) (Steps.refl _) (a := b1) (argsL := [(.long (-2 : Int64)), (.int (p2 &&& (2147483647 : Int32))), (.long q3)]) (rest := [(.ref b1)]) (lenOf pd_6 rfl) rfl (by show 2 * 0 + _ ≤ _; exact Nat.le_of_eq rfl) (hb hby at_104) (fun _ _ => ⟨rfl, e1, (by decide : 1 + 5 ≤ _), (by decide : 11 + 56 ≤ _)⟩)
  dsimp only [Pt.U, Pt.locs, Pt.cells, Pt.slots] at X2 l2 y2 z2 st2 hQ2
  subst l2 y2 z2
  obtain ⟨N2q, hP2⟩ := hQ2
  have N2 := Fr.app N0 N2q
  obtain ⟨b2_b2, b2_b3_b1_b2, k2_k3_k1_k2, rfl, Kp2, g_b2_b2, si_b2_b2, g_b2_b3_b1_b2, si_b2_b3_b1_b2, fp2_0, fp2_1, fp2_2, fp2_3, fp2_4, fp2_5, fp2_6, fp2_7, fp2_8, fp2_9⟩ := hP2
  have f2_0 : Exa Z T2.heap b1 "com/example/tillwire/tillwire/HttpFraming$BodyReader" := (A1).keep Kp2
  have O2 := O1.keep Kp2 (allS g_b1 all0)
  obtain ⟨cq3, kq3, q3a, q3b, q3c⟩ := isOf hZ rfl fp2_0
  obtain ⟨_, _, ⟨T3, L3, k3, n3⟩, -, X3, ⟨Lc3, hQ3, l3, y3, z3⟩, st3⟩ := X2.virtualBack hx (y := (⟨"com/example/tillwire/tillwire/HttpFraming$BodyReader", "done", "()Z"⟩ : MethodName)) (z := (⟨"com/example/tillwire/tillwire/HttpFraming$BodyReader", "done", "()Z"⟩ : MethodName)) hown (mvT hZ (hw _ (List.mem_of_getElem? (i := 78) rfl))) (mvT hZ (hw _ (List.mem_of_getElem? (i := 79) rfl))) (notFace_of_selects (args := #[]) (mvT hZ (hw _ (List.mem_of_getElem? (i := 81) rfl)))) (mvT hZ (hw _ (List.mem_of_getElem? (i := 81) rfl))) (mvT hZ (hw _ (List.mem_of_getElem? (i := 80) rfl))) (by decide) (backOf (W := 0) (rm_dnTO_END l Z a0 hw [] W b1 T2.heap n0 O2 fp2_3) hZ (hw _ (List.mem_of_getElem? (i := 82) rfl)) (hw _ (List.mem_of_getElem? (i := 4) rfl)) (by decide) (by decide)) q3a q3c (g := (mkF m 111 #[.val (.int p1), .val (.int p2), .val (.long q3), .second, .val (.long q4), .second, .val (.int (p2 &&& (2147483647 : Int32))), .val (.int (0 : Int32)), .val (.long q3), .second, .val (.long (-2 : Int64)), .second, .val (.int (1 : Int32)), .val (.int (0 : Int32)), .val (.ref b1), .unset, .unset, .unset, .unset] [(.ref b1)])) rfl (by rw [hml]; rfl) (Steps.refl _) (argsL := []) (rest := []) (lenOf pd_7 rfl) rfl (by show 2 * 0 + _ ≤ _; exact Nat.le_of_eq rfl) (hb hby at_111) (fun _ _ => ⟨rfl, rfl, (by decide : 6 + 0 ≤ _), (by decide : 67 + 0 ≤ _)⟩)
  dsimp only [Pt.U, Pt.locs, Pt.cells, Pt.slots] at X3 l3 y3 z3 st3 hQ3
  subst l3 y3 z3
  obtain ⟨rfl, N3q, e3⟩ := hQ3
  have N3 := Fr.app N2 N3q
  obtain ⟨cq4, kq4, q4a, q4b, q4c⟩ := isOf hZ e3 fp2_0
  obtain ⟨_, _, ⟨T4, L4, k4, n4⟩, -, X4, ⟨Lc4, hQ4, l4, y4, z4⟩, st4⟩ := X3.virtualBack hx (y := (⟨"com/example/tillwire/tillwire/HttpFraming$BodyReader", "whole", "()Z"⟩ : MethodName)) (z := (⟨"com/example/tillwire/tillwire/HttpFraming$BodyReader", "whole", "()Z"⟩ : MethodName)) hown (mvT hZ (hw _ (List.mem_of_getElem? (i := 85) rfl))) (mvT hZ (hw _ (List.mem_of_getElem? (i := 86) rfl))) (notFace_of_selects (args := #[]) (mvT hZ (hw _ (List.mem_of_getElem? (i := 88) rfl)))) (mvT hZ (hw _ (List.mem_of_getElem? (i := 88) rfl))) (mvT hZ (hw _ (List.mem_of_getElem? (i := 87) rfl))) (by decide) (backOf (W := 0) (rm_wh1 l Z a0 hw [] W b1 T2.heap n0 O2 fp2_2) hZ (hw _ (List.mem_of_getElem? (i := 89) rfl)) (hw _ (List.mem_of_getElem? (i := 4) rfl)) (by decide) (by decide)) q4a q4c (g := (mkF m 118 #[.val (.int p1), .val (.int p2), .val (.long q3), .second, .val (.long q4), .second, .val (.int (p2 &&& (2147483647 : Int32))), .val (.int (0 : Int32)), .val (.long q3), .second, .val (.long (-2 : Int64)), .second, .val (.int (1 : Int32)), .val (.int (0 : Int32)), .val (.ref b1), .val (.int (0 : Int32)), .unset, .unset, .unset] [(.ref b1)])) rfl (by rw [hml]; rfl) (Steps.refl _) (argsL := []) (rest := []) (lenOf pd_7 rfl) rfl (by show 2 * 0 + _ ≤ _; exact Nat.le_of_eq rfl) (hb hby at_118) (fun _ _ => ⟨rfl, e3, (by decide : 6 + 0 ≤ _), (by decide : 67 + 0 ≤ _)⟩)
  dsimp only [Pt.U, Pt.locs, Pt.cells, Pt.slots] at X4 l4 y4 z4 st4 hQ4
  subst l4 y4 z4
  obtain ⟨rfl, N4q, e4⟩ := hQ4
  have N4 := Fr.app N3 N4q
  obtain ⟨cq5, kq5, q5a, q5b, q5c⟩ := isOf hZ e4 fp2_0
  obtain ⟨_, _, ⟨T5, L5, k5, n5⟩, -, X5, ⟨Lc5, hQ5, l5, y5, z5⟩, st5⟩ := X4.virtualBack hx (y := (⟨"com/example/tillwire/tillwire/HttpFraming$BodyReader", "end", "()V"⟩ : MethodName)) (z := (⟨"com/example/tillwire/tillwire/HttpFraming$BodyReader", "end", "()V"⟩ : MethodName)) hown (mvT hZ (hw _ (List.mem_of_getElem? (i := 90) rfl))) (mvT hZ (hw _ (List.mem_of_getElem? (i := 91) rfl))) (notFace_of_selects (args := #[]) (mvT hZ (hw _ (List.mem_of_getElem? (i := 93) rfl)))) (mvT hZ (hw _ (List.mem_of_getElem? (i := 93) rfl))) (mvT hZ (hw _ (List.mem_of_getElem? (i := 92) rfl))) (by decide) (backOf (W := 0) (rm_enTO_END l Z a0 hw [] W b1 b2_b2 (1 : Int32) T2.heap n0 O2 g_b1 fp2_0 fp2_1 fp2_2 fp2_3) hZ (hw _ (List.mem_of_getElem? (i := 94) rfl)) (hw _ (List.mem_of_getElem? (i := 4) rfl)) (by decide) (by decide)) q5a q5c (g := (mkF m 125 #[.val (.int p1), .val (.int p2), .val (.long q3), .second, .val (.long q4), .second, .val (.int (p2 &&& (2147483647 : Int32))), .val (.int (0 : Int32)), .val (.long q3), .second, .val (.long (-2 : Int64)), .second, .val (.int (1 : Int32)), .val (.int (0 : Int32)), .val (.ref b1), .val (.int (0 : Int32)), .val (.int (1 : Int32)), .unset, .unset] [(.ref b1)])) rfl (by rw [hml]; rfl) (Steps.refl _) (argsL := []) (rest := []) (lenOf pd_0 rfl) rfl (by show 2 * 0 + _ ≤ _; exact Nat.le_of_eq rfl) (hb hby at_125) (fun _ _ => ⟨rfl, e4, (by decide : 6 + 0 ≤ _), (by decide : 67 + 0 ≤ _)⟩)
  dsimp only [Pt.U, Pt.locs, Pt.cells, Pt.slots] at X5 l5 y5 z5 st5 hQ5
  subst l5 y5 z5
  obtain ⟨N5q, hP5⟩ := hQ5
  have N5 := Fr.app N4 N5q
  obtain ⟨rfl, Kp5, fp5_0, fp5_1, fp5_2, fp5_3⟩ := hP5
  have f5_0 : Exa Z T5.heap b1 "com/example/tillwire/tillwire/HttpFraming$BodyReader" := (fp2_0).keep Kp5
  have f5_1 : Exa Z T5.heap b2_b2 "java/io/ByteArrayOutputStream" := (fp2_4).keep Kp5
  have f5_2 : Unt T5.heap b2_b2 := own_untk fp2_5 Kp5 (ninS (ne_exa fp2_4 fp2_0 (by decide)) nin0)
  have f5_3 : Fld Z T5.heap b2_b2 "java/io/ByteArrayOutputStream" "buf" "[B" (.ref b2_b3_b1_b2) := (fp2_6).keep Kp5 (ninS (ne_exa fp2_4 fp2_0 (by decide)) nin0)
  have f5_4 : Fld Z T5.heap b2_b2 "java/io/ByteArrayOutputStream" "count" "I" (.int (0 : Int32)) := (fp2_7).keep Kp5 (ninS (ne_exa fp2_4 fp2_0 (by decide)) nin0)
  have f5_5 : Exa Z T5.heap b2_b3_b1_b2 "[B" := (fp2_8).keep Kp5
  have f5_6 : Arv Z T5.heap b2_b3_b1_b2 k2_k3_k1_k2 .byte (32 : Int32) [] (.int (0 : Int32)) := (fp2_9).keep Kp5 (ninS (ne_exa fp2_8 fp2_0 (by decide)) nin0)
  have O5 := O2.keep Kp5 (allS g_b1 all0)
  obtain ⟨cq6, kq6, q6a, q6b, q6c⟩ := isOf hZ rfl fp5_0
  obtain ⟨_, _, ⟨T6, L6, k6, n6⟩, -, X6, ⟨Lc6, hQ6, l6, y6, z6⟩, st6⟩ := X5.virtualBack hx (y := (⟨"com/example/tillwire/tillwire/HttpFraming$BodyReader", "done", "()Z"⟩ : MethodName)) (z := (⟨"com/example/tillwire/tillwire/HttpFraming$BodyReader", "done", "()Z"⟩ : MethodName)) hown (mvT hZ (hw _ (List.mem_of_getElem? (i := 78) rfl))) (mvT hZ (hw _ (List.mem_of_getElem? (i := 79) rfl))) (notFace_of_selects (args := #[]) (mvT hZ (hw _ (List.mem_of_getElem? (i := 81) rfl)))) (mvT hZ (hw _ (List.mem_of_getElem? (i := 81) rfl))) (mvT hZ (hw _ (List.mem_of_getElem? (i := 80) rfl))) (by decide) (backOf (W := 0) (rm_dnDONE l Z a0 hw [] W b1 T5.heap n0 O5 fp5_3) hZ (hw _ (List.mem_of_getElem? (i := 82) rfl)) (hw _ (List.mem_of_getElem? (i := 4) rfl)) (by decide) (by decide)) q6a q6c (g := (mkF m 130 #[.val (.int p1), .val (.int p2), .val (.long q3), .second, .val (.long q4), .second, .val (.int (p2 &&& (2147483647 : Int32))), .val (.int (0 : Int32)), .val (.long q3), .second, .val (.long (-2 : Int64)), .second, .val (.int (1 : Int32)), .val (.int (0 : Int32)), .val (.ref b1), .val (.int (0 : Int32)), .val (.int (1 : Int32)), .unset, .unset] [(.ref b1)])) rfl (by rw [hml]; rfl) (Steps.refl _) (argsL := []) (rest := []) (lenOf pd_7 rfl) rfl (by show 2 * 0 + _ ≤ _; exact Nat.le_of_eq rfl) (hb hby at_130) (fun _ _ => ⟨rfl, rfl, (by decide : 6 + 0 ≤ _), (by decide : 67 + 0 ≤ _)⟩)
  dsimp only [Pt.U, Pt.locs, Pt.cells, Pt.slots] at X6 l6 y6 z6 st6 hQ6
  subst l6 y6 z6
  obtain ⟨rfl, N6q, e6⟩ := hQ6
  have N6 := Fr.app N5 N6q
  obtain ⟨cq7, kq7, q7a, q7b, q7c⟩ := isOf hZ e6 fp5_0
  obtain ⟨_, _, ⟨T7, L7, k7, n7⟩, -, X7, ⟨Lc7, hQ7, l7, y7, z7⟩, st7⟩ := X6.virtualBack hx (y := (⟨"com/example/tillwire/tillwire/HttpFraming$BodyReader", "end", "()V"⟩ : MethodName)) (z := (⟨"com/example/tillwire/tillwire/HttpFraming$BodyReader", "end", "()V"⟩ : MethodName)) hown (mvT hZ (hw _ (List.mem_of_getElem? (i := 90) rfl))) (mvT hZ (hw _ (List.mem_of_getElem? (i := 91) rfl))) (notFace_of_selects (args := #[]) (mvT hZ (hw _ (List.mem_of_getElem? (i := 93) rfl)))) (mvT hZ (hw _ (List.mem_of_getElem? (i := 93) rfl))) (mvT hZ (hw _ (List.mem_of_getElem? (i := 92) rfl))) (by decide) (backOf (W := 0) (rm_enDONE l Z a0 hw [] W b1 b2_b2 (1 : Int32) T5.heap n0 O5 g_b1 fp5_0 fp5_1 fp5_2 fp5_3) hZ (hw _ (List.mem_of_getElem? (i := 94) rfl)) (hw _ (List.mem_of_getElem? (i := 4) rfl)) (by decide) (by decide)) q7a q7c (g := (mkF m 137 #[.val (.int p1), .val (.int p2), .val (.long q3), .second, .val (.long q4), .second, .val (.int (p2 &&& (2147483647 : Int32))), .val (.int (0 : Int32)), .val (.long q3), .second, .val (.long (-2 : Int64)), .second, .val (.int (1 : Int32)), .val (.int (0 : Int32)), .val (.ref b1), .val (.int (0 : Int32)), .val (.int (1 : Int32)), .val (.int (1 : Int32)), .unset] [(.ref b1)])) rfl (by rw [hml]; rfl) (Steps.refl _) (argsL := []) (rest := []) (lenOf pd_0 rfl) rfl (by show 2 * 0 + _ ≤ _; exact Nat.le_of_eq rfl) (hb hby at_137) (fun _ _ => ⟨rfl, e6, (by decide : 6 + 0 ≤ _), (by decide : 67 + 0 ≤ _)⟩)
  dsimp only [Pt.U, Pt.locs, Pt.cells, Pt.slots] at X7 l7 y7 z7 st7 hQ7
  subst l7 y7 z7
  obtain ⟨N7q, hP7⟩ := hQ7
  have N7 := Fr.app N6 N7q
  obtain ⟨rfl, Kp7, fp7_0, fp7_1, fp7_2, fp7_3⟩ := hP7
  have f7_0 : Exa Z T7.heap b1 "com/example/tillwire/tillwire/HttpFraming$BodyReader" := (fp5_0).keep Kp7
  have f7_1 : Exa Z T7.heap b2_b2 "java/io/ByteArrayOutputStream" := (f5_1).keep Kp7
  have f7_2 : Unt T7.heap b2_b2 := own_untk f5_2 Kp7 (ninS (ne_exa f5_1 fp5_0 (by decide)) nin0)
  have f7_3 : Fld Z T7.heap b2_b2 "java/io/ByteArrayOutputStream" "buf" "[B" (.ref b2_b3_b1_b2) := (f5_3).keep Kp7 (ninS (ne_exa f5_1 fp5_0 (by decide)) nin0)
  have f7_4 : Fld Z T7.heap b2_b2 "java/io/ByteArrayOutputStream" "count" "I" (.int (0 : Int32)) := (f5_4).keep Kp7 (ninS (ne_exa f5_1 fp5_0 (by decide)) nin0)
  have f7_5 : Exa Z T7.heap b2_b3_b1_b2 "[B" := (f5_5).keep Kp7
  have f7_6 : Arv Z T7.heap b2_b3_b1_b2 k2_k3_k1_k2 .byte (32 : Int32) [] (.int (0 : Int32)) := (f5_6).keep Kp7 (ninS (ne_exa f5_5 fp5_0 (by decide)) nin0)
  have O7 := O5.keep Kp7 (allS g_b1 all0)
  obtain ⟨cq8, kq8, q8a, q8b, q8c⟩ := isOf hZ rfl fp7_0
  obtain ⟨_, _, ⟨T8, L8, k8, n8⟩, -, X8, ⟨Lc8, hQ8, l8, y8, z8⟩, st8⟩ := X7.virtualBack hx (y := (⟨"com/example/tillwire/tillwire/HttpFraming$BodyReader", "done", "()Z"⟩ : MethodName)) (z := (⟨"com/example/tillwire/tillwire/HttpFraming$BodyReader", "done", "()Z"⟩ : MethodName)) hown (mvT hZ (hw _ (List.mem_of_getElem? (i := 78) rfl))) (mvT hZ (hw _ (List.mem_of_getElem? (i := 79) rfl))) (notFace_of_selects (args := #[]) (mvT hZ (hw _ (List.mem_of_getElem? (i := 81) rfl)))) (mvT hZ (hw _ (List.mem_of_getElem? (i := 81) rfl))) (mvT hZ (hw _ (List.mem_of_getElem? (i := 80) rfl))) (by decide) (backOf (W := 0) (rm_dnDONE l Z a0 hw [] W b1 T7.heap n0 O7 fp7_3) hZ (hw _ (List.mem_of_getElem? (i := 82) rfl)) (hw _ (List.mem_of_getElem? (i := 4) rfl)) (by decide) (by decide)) q8a q8c (g := (mkF m 142 #[.val (.int p1), .val (.int p2), .val (.long q3), .second, .val (.long q4), .second, .val (.int (p2 &&& (2147483647 : Int32))), .val (.int (0 : Int32)), .val (.long q3), .second, .val (.long (-2 : Int64)), .second, .val (.int (1 : Int32)), .val (.int (0 : Int32)), .val (.ref b1), .val (.int (0 : Int32)), .val (.int (1 : Int32)), .val (.int (1 : Int32)), .unset] [(.ref b1)])) rfl (by rw [hml]; rfl) (Steps.refl _) (argsL := []) (rest := []) (lenOf pd_7 rfl) rfl (by show 2 * 0 + _ ≤ _; exact Nat.le_of_eq rfl) (hb hby at_142) (fun _ _ => ⟨rfl, rfl, (by decide : 6 + 0 ≤ _), (by decide : 67 + 0 ≤ _)⟩)
  dsimp only [Pt.U, Pt.locs, Pt.cells, Pt.slots] at X8 l8 y8 z8 st8 hQ8
  subst l8 y8 z8
  obtain ⟨rfl, N8q, e8⟩ := hQ8
  have N8 := Fr.app N7 N8q
  obtain ⟨cq9, kq9, q9a, q9b, q9c⟩ := isOf hZ e8 fp7_0
  obtain ⟨_, _, ⟨T9, L9, k9, n9⟩, -, X9, ⟨Lc9, hQ9, l9, y9, z9⟩, st9⟩ := X8.virtualBack hx (y := (⟨"com/example/tillwire/tillwire/HttpFraming$BodyReader", "whole", "()Z"⟩ : MethodName)) (z := (⟨"com/example/tillwire/tillwire/HttpFraming$BodyReader", "whole", "()Z"⟩ : MethodName)) hown (mvT hZ (hw _ (List.mem_of_getElem? (i := 85) rfl))) (mvT hZ (hw _ (List.mem_of_getElem? (i := 86) rfl))) (notFace_of_selects (args := #[]) (mvT hZ (hw _ (List.mem_of_getElem? (i := 88) rfl)))) (mvT hZ (hw _ (List.mem_of_getElem? (i := 88) rfl))) (mvT hZ (hw _ (List.mem_of_getElem? (i := 87) rfl))) (by decide) (backOf (W := 0) (rm_wh1 l Z a0 hw [] W b1 T7.heap n0 O7 fp7_2) hZ (hw _ (List.mem_of_getElem? (i := 89) rfl)) (hw _ (List.mem_of_getElem? (i := 4) rfl)) (by decide) (by decide)) q9a q9c (g := (mkF m 173 #[.val (.int p1), .val (.int p2), .val (.long q3), .second, .val (.long q4), .second, .val (.int (p2 &&& (2147483647 : Int32))), .val (.int (0 : Int32)), .val (.long q3), .second, .val (.long (-2 : Int64)), .second, .val (.int (1 : Int32)), .val (.int (0 : Int32)), .val (.ref b1), .val (.int (0 : Int32)), .val (.int (1 : Int32)), .val (.int (1 : Int32)), .val (.int (1 : Int32))] [(.ref b1)])) rfl (by rw [hml]; rfl) (Steps.refl _) (argsL := []) (rest := []) (lenOf pd_7 rfl) rfl (by show 2 * 0 + _ ≤ _; exact Nat.le_of_eq rfl) (hb hby at_173) (fun _ _ => ⟨rfl, e8, (by decide : 6 + 0 ≤ _), (by decide : 67 + 0 ≤ _)⟩)
  dsimp only [Pt.U, Pt.locs, Pt.cells, Pt.slots] at X9 l9 y9 z9 st9 hQ9
  subst l9 y9 z9
  obtain ⟨rfl, N9q, e9⟩ := hQ9
  have N9 := Fr.app N8 N9q
  obtain ⟨cq10, kq10, q10a, q10b, q10c⟩ := isOf hZ e9 fp7_0
  obtain ⟨_, _, ⟨T10, L10, k10, n10⟩, -, X10, ⟨Lc10, hQ10, l10, y10, z10⟩, st10⟩ := X9.virtualBack hx (y := (⟨"com/example/tillwire/tillwire/HttpFraming$BodyReader", "bytes", "()[B"⟩ : MethodName)) (z := (⟨"com/example/tillwire/tillwire/HttpFraming$BodyReader", "bytes", "()[B"⟩ : MethodName)) hown (mvT hZ (hw _ (List.mem_of_getElem? (i := 95) rfl))) (mvT hZ (hw _ (List.mem_of_getElem? (i := 96) rfl))) (notFace_of_selects (args := #[]) (mvT hZ (hw _ (List.mem_of_getElem? (i := 98) rfl)))) (mvT hZ (hw _ (List.mem_of_getElem? (i := 98) rfl))) (mvT hZ (hw _ (List.mem_of_getElem? (i := 97) rfl))) (by decide) (backOf (W := 0) (rm_by l Z a0 hw [] W b1 b2_b2 b2_b3_b1_b2 k2_k3_k1_k2 T7.heap n0 O7 g_b1 fp7_1 g_b2_b2 f7_1 f7_2 f7_3 f7_4 g_b2_b3_b1_b2 f7_6) hZ (hw _ (List.mem_of_getElem? (i := 99) rfl)) (hw _ (List.mem_of_getElem? (i := 4) rfl)) (by decide) (by decide)) q10a q10c (g := (mkF m 183 #[.val (.int p1), .val (.int p2), .val (.long q3), .second, .val (.long q4), .second, .val (.int (p2 &&& (2147483647 : Int32))), .val (.int (0 : Int32)), .val (.long q3), .second, .val (.long (-2 : Int64)), .second, .val (.int (1 : Int32)), .val (.int (0 : Int32)), .val (.ref b1), .val (.int (0 : Int32)), .val (.int (1 : Int32)), .val (.int (1 : Int32)), .val (.int (1 : Int32))] [(.ref b1)])) rfl (by rw [hml]; rfl) (Steps.refl _) (argsL := []) (rest := []) (lenOf pd_5 rfl) rfl (by show 2 * 0 + _ ≤ _; exact Nat.le_of_eq rfl) (hb hby at_183) (fun _ _ => ⟨rfl, e9, (by decide : 6 + 1 ≤ _), (by decide : 67 + 0 ≤ _)⟩)
  dsimp only [Pt.U, Pt.locs, Pt.cells, Pt.slots] at X10 l10 y10 z10 st10 hQ10
  subst l10 y10 z10
  obtain ⟨N10q, hP10⟩ := hQ10
  have N10 := Fr.app N9 N10q
  obtain ⟨b10, k10, rfl, g_b10, fv10⟩ := hP10
  obtain ⟨cl11, Ar11, qk11, Sz11, Nz11, Hs11, Gs11⟩ := id fv10
  obtain ⟨fs, hr, hrun, hended, hW, hsame⟩ := X10.leave (v := some (.int (1 : Int32))) (fun h => by rw [Bd.returns] at h; cases h)
  refine ⟨_, _, pre0 _ ?_, hrun, hended, _, _, rfl, ?_, ⟨_, rfl⟩, hW, hsame.mono (by decide) (by decide)⟩
  · show Steps p.tables e below (s₁.setTop (mkF m 0 #[.val (.int p1), .val (.int p2), .val (.long q3), .second, .val (.long q4), .second, .unset, .unset, .unset, .unset, .unset, .unset, .unset, .unset, .unset, .unset, .unset, .unset, .unset] [])) _
    refine XS.iloadN X0.here hx rfl (hb hby at_0) rfl ?_
    show Steps p.tables e below (s₁.setTop (mkF m 1 #[.val (.int p1), .val (.int p2), .val (.long q3), .second, .val (.long q4), .second, .unset, .unset, .unset, .unset, .unset, .unset, .unset, .unset, .unset, .unset, .unset, .unset, .unset] [(.int p2)])) _
    refine X0.ldcInt hx hown (mvT hZ (hw _ (List.mem_of_getElem? (i := 0) rfl))) (g := (mkF m 1 #[.val (.int p1), .val (.int p2), .val (.long q3), .second, .val (.long q4), .second, .unset, .unset, .unset, .unset, .unset, .unset, .unset, .unset, .unset, .unset, .unset, .unset, .unset] [(.int p2)])) rfl (hb hby at_1) _ ?_
    show Steps p.tables e below (s₁.setTop (mkF m 3 #[.val (.int p1), .val (.int p2), .val (.long q3), .second, .val (.long q4), .second, .unset, .unset, .unset, .unset, .unset, .unset, .unset, .unset, .unset, .unset, .unset, .unset, .unset] [(.int (2147483647 : Int32)), (.int p2)])) _
    refine XS.iand X0.here hx rfl (hb hby at_3) rfl ?_
    show Steps p.tables e below (s₁.setTop (mkF m 4 #[.val (.int p1), .val (.int p2), .val (.long q3), .second, .val (.long q4), .second, .unset, .unset, .unset, .unset, .unset, .unset, .unset, .unset, .unset, .unset, .unset, .unset, .unset] [(.int (p2 &&& (2147483647 : Int32)))])) _
    refine XS.istore X0.here hx rfl (hb hby at_4) rfl (l' := #[.val (.int p1), .val (.int p2), .val (.long q3), .second, .val (.long q4), .second, .val (.int (p2 &&& (2147483647 : Int32))), .unset, .unset, .unset, .unset, .unset, .unset, .unset, .unset, .unset, .unset, .unset, .unset]) rfl ?_
    show Steps p.tables e below (s₁.setTop (mkF m 6 #[.val (.int p1), .val (.int p2), .val (.long q3), .second, .val (.long q4), .second, .val (.int (p2 &&& (2147483647 : Int32))), .unset, .unset, .unset, .unset, .unset, .unset, .unset, .unset, .unset, .unset, .unset, .unset] [])) _
    refine XS.iloadN X0.here hx rfl (hb hby at_6) rfl ?_
    show Steps p.tables e below (s₁.setTop (mkF m 7 #[.val (.int p1), .val (.int p2), .val (.long q3), .second, .val (.long q4), .second, .val (.int (p2 &&& (2147483647 : Int32))), .unset, .unset, .unset, .unset, .unset, .unset, .unset, .unset, .unset, .unset, .unset, .unset] [(.int p1)])) _
    refine X0.ldcInt hx hown (mvT hZ (hw _ (List.mem_of_getElem? (i := 0) rfl))) (g := (mkF m 7 #[.val (.int p1), .val (.int p2), .val (.long q3), .second, .val (.long q4), .second, .val (.int (p2 &&& (2147483647 : Int32))), .unset, .unset, .unset, .unset, .unset, .unset, .unset, .unset, .unset, .unset, .unset, .unset] [(.int p1)])) rfl (hb hby at_7) _ ?_
    show Steps p.tables e below (s₁.setTop (mkF m 9 #[.val (.int p1), .val (.int p2), .val (.long q3), .second, .val (.long q4), .second, .val (.int (p2 &&& (2147483647 : Int32))), .unset, .unset, .unset, .unset, .unset, .unset, .unset, .unset, .unset, .unset, .unset, .unset] [(.int (2147483647 : Int32)), (.int p1)])) _
    refine XS.iand X0.here hx rfl (hb hby at_9) rfl ?_
    show Steps p.tables e below (s₁.setTop (mkF m 10 #[.val (.int p1), .val (.int p2), .val (.long q3), .second, .val (.long q4), .second, .val (.int (p2 &&& (2147483647 : Int32))), .unset, .unset, .unset, .unset, .unset, .unset, .unset, .unset, .unset, .unset, .unset, .unset] [(.int (p1 &&& (2147483647 : Int32)))])) _
    refine XS.iconst X0.here hx rfl (hb hby at_10) ?_
    show Steps p.tables e below (s₁.setTop (mkF m 11 #[.val (.int p1), .val (.int p2), .val (.long q3), .second, .val (.long q4), .second, .val (.int (p2 &&& (2147483647 : Int32))), .unset, .unset, .unset, .unset, .unset, .unset, .unset, .unset, .unset, .unset, .unset, .unset] [(.int (3 : Int32)), (.int (p1 &&& (2147483647 : Int32)))])) _
    refine iremM X0 hx rfl (hb hby at_11) rfl (by decide) ?_
    show Steps p.tables e below (s₁.setTop (mkF m 12 #[.val (.int p1), .val (.int p2), .val (.long q3), .second, .val (.long q4), .second, .val (.int (p2 &&& (2147483647 : Int32))), .unset, .unset, .unset, .unset, .unset, .unset, .unset, .unset, .unset, .unset, .unset, .unset] [(.int ((p1 &&& (2147483647 : Int32)) % (3 : Int32)))])) _
    rw [hk]
    show Steps p.tables e below (s₁.setTop (mkF m 12 #[.val (.int p1), .val (.int p2), .val (.long q3), .second, .val (.long q4), .second, .val (.int (p2 &&& (2147483647 : Int32))), .unset, .unset, .unset, .unset, .unset, .unset, .unset, .unset, .unset, .unset, .unset, .unset] [(.int (0 : Int32))])) _
    refine XS.istore X0.here hx rfl (hb hby at_12) rfl (l' := #[.val (.int p1), .val (.int p2), .val (.long q3), .second, .val (.long q4), .second, .val (.int (p2 &&& (2147483647 : Int32))), .val (.int (0 : Int32)), .unset, .unset, .unset, .unset, .unset, .unset, .unset, .unset, .unset, .unset, .unset]) rfl ?_
    show Steps p.tables e below (s₁.setTop (mkF m 14 #[.val (.int p1), .val (.int p2), .val (.long q3), .second, .val (.long q4), .second, .val (.int (p2 &&& (2147483647 : Int32))), .val (.int (0 : Int32)), .unset, .unset, .unset, .unset, .unset, .unset, .unset, .unset, .unset, .unset, .unset] [])) _
    refine XS.lloadN X0.here hx rfl (hb hby at_14) rfl ?_
    show Steps p.tables e below (s₁.setTop (mkF m 15 #[.val (.int p1), .val (.int p2), .val (.long q3), .second, .val (.long q4), .second, .val (.int (p2 &&& (2147483647 : Int32))), .val (.int (0 : Int32)), .unset, .unset, .unset, .unset, .unset, .unset, .unset, .unset, .unset, .unset, .unset] [(.long q3)])) _
    refine XS.lstore X0.here hx rfl (hb hby at_15) rfl (l' := #[.val (.int p1), .val (.int p2), .val (.long q3), .second, .val (.long q4), .second, .val (.int (p2 &&& (2147483647 : Int32))), .val (.int (0 : Int32)), .val (.long q3), .second, .unset, .unset, .unset, .unset, .unset, .unset, .unset, .unset, .unset]) rfl ?_
    show Steps p.tables e below (s₁.setTop (mkF m 17 #[.val (.int p1), .val (.int p2), .val (.long q3), .second, .val (.long q4), .second, .val (.int (p2 &&& (2147483647 : Int32))), .val (.int (0 : Int32)), .val (.long q3), .second, .unset, .unset, .unset, .unset, .unset, .unset, .unset, .unset, .unset] [])) _
    refine XS.iload X0.here hx rfl (hb hby at_17) rfl ?_
    show Steps p.tables e below (s₁.setTop (mkF m 19 #[.val (.int p1), .val (.int p2), .val (.long q3), .second, .val (.long q4), .second, .val (.int (p2 &&& (2147483647 : Int32))), .val (.int (0 : Int32)), .val (.long q3), .second, .unset, .unset, .unset, .unset, .unset, .unset, .unset, .unset, .unset] [(.int (0 : Int32))])) _
    refine XS.ifNo X0.here hx rfl (hb hby at_19) rfl ((if0 _ _).trans (teq ((by decide) : (0 : Int32) = (0 : Int32))).2) ?_
    show Steps p.tables e below (s₁.setTop (mkF m 22 #[.val (.int p1), .val (.int p2), .val (.long q3), .second, .val (.long q4), .second, .val (.int (p2 &&& (2147483647 : Int32))), .val (.int (0 : Int32)), .val (.long q3), .second, .unset, .unset, .unset, .unset, .unset, .unset, .unset, .unset, .unset] [])) _
    refine X0.ldc2Long hx hown (mvT hZ (hw _ (List.mem_of_getElem? (i := 1) rfl))) (g := (mkF m 22 #[.val (.int p1), .val (.int p2), .val (.long q3), .second, .val (.long q4), .second, .val (.int (p2 &&& (2147483647 : Int32))), .val (.int (0 : Int32)), .val (.long q3), .second, .unset, .unset, .unset, .unset, .unset, .unset, .unset, .unset, .unset] [])) rfl (hb hby at_22) _ ?_
    show Steps p.tables e below (s₁.setTop (mkF m 25 #[.val (.int p1), .val (.int p2), .val (.long q3), .second, .val (.long q4), .second, .val (.int (p2 &&& (2147483647 : Int32))), .val (.int (0 : Int32)), .val (.long q3), .second, .unset, .unset, .unset, .unset, .unset, .unset, .unset, .unset, .unset] [(.long (-2 : Int64))])) _
    refine XS.lstore X0.here hx rfl (hb hby at_25) rfl (l' := #[.val (.int p1), .val (.int p2), .val (.long q3), .second, .val (.long q4), .second, .val (.int (p2 &&& (2147483647 : Int32))), .val (.int (0 : Int32)), .val (.long q3), .second, .val (.long (-2 : Int64)), .second, .unset, .unset, .unset, .unset, .unset, .unset, .unset]) rfl ?_
    show Steps p.tables e below (s₁.setTop (mkF m 27 #[.val (.int p1), .val (.int p2), .val (.long q3), .second, .val (.long q4), .second, .val (.int (p2 &&& (2147483647 : Int32))), .val (.int (0 : Int32)), .val (.long q3), .second, .val (.long (-2 : Int64)), .second, .unset, .unset, .unset, .unset, .unset, .unset, .unset] [])) _
    refine XS.iconst X0.here hx rfl (hb hby at_27) ?_
    show Steps p.tables e below (s₁.setTop (mkF m 28 #[.val (.int p1), .val (.int p2), .val (.long q3), .second, .val (.long q4), .second, .val (.int (p2 &&& (2147483647 : Int32))), .val (.int (0 : Int32)), .val (.long q3), .second, .val (.long (-2 : Int64)), .second, .unset, .unset, .unset, .unset, .unset, .unset, .unset] [(.int (1 : Int32))])) _
    refine XS.istore X0.here hx rfl (hb hby at_28) rfl (l' := #[.val (.int p1), .val (.int p2), .val (.long q3), .second, .val (.long q4), .second, .val (.int (p2 &&& (2147483647 : Int32))), .val (.int (0 : Int32)), .val (.long q3), .second, .val (.long (-2 : Int64)), .second, .val (.int (1 : Int32)), .unset, .unset, .unset, .unset, .unset, .unset]) rfl ?_
    show Steps p.tables e below (s₁.setTop (mkF m 30 #[.val (.int p1), .val (.int p2), .val (.long q3), .second, .val (.long q4), .second, .val (.int (p2 &&& (2147483647 : Int32))), .val (.int (0 : Int32)), .val (.long q3), .second, .val (.long (-2 : Int64)), .second, .val (.int (1 : Int32)), .unset, .unset, .unset, .unset, .unset, .unset] [])) _
    refine XS.iconst X0.here hx rfl (hb hby at_30) ?_
    show Steps p.tables e below (s₁.setTop (mkF m 31 #[.val (.int p1), .val (.int p2), .val (.long q3), .second, .val (.long q4), .second, .val (.int (p2 &&& (2147483647 : Int32))), .val (.int (0 : Int32)), .val (.long q3), .second, .val (.long (-2 : Int64)), .second, .val (.int (1 : Int32)), .unset, .unset, .unset, .unset, .unset, .unset] [(.int (0 : Int32))])) _
    refine XS.istore X0.here hx rfl (hb hby at_31) rfl (l' := #[.val (.int p1), .val (.int p2), .val (.long q3), .second, .val (.long q4), .second, .val (.int (p2 &&& (2147483647 : Int32))), .val (.int (0 : Int32)), .val (.long q3), .second, .val (.long (-2 : Int64)), .second, .val (.int (1 : Int32)), .val (.int (0 : Int32)), .unset, .unset, .unset, .unset, .unset]) rfl ?_
    show Steps p.tables e below (s₁.setTop (mkF m 33 #[.val (.int p1), .val (.int p2), .val (.long q3), .second, .val (.long q4), .second, .val (.int (p2 &&& (2147483647 : Int32))), .val (.int (0 : Int32)), .val (.long q3), .second, .val (.long (-2 : Int64)), .second, .val (.int (1 : Int32)), .val (.int (0 : Int32)), .unset, .unset, .unset, .unset, .unset] [])) _
    refine XS.goto X0.here hx rfl (pc0 := 33) (pc' := 94) rfl (hb hby at_33) (by decide) (by decide) ?_
    show Steps p.tables e below (s₁.setTop (mkF m 94 #[.val (.int p1), .val (.int p2), .val (.long q3), .second, .val (.long q4), .second, .val (.int (p2 &&& (2147483647 : Int32))), .val (.int (0 : Int32)), .val (.long q3), .second, .val (.long (-2 : Int64)), .second, .val (.int (1 : Int32)), .val (.int (0 : Int32)), .unset, .unset, .unset, .unset, .unset] [])) _
    refine st1 _ ?_
    show Steps p.tables e below (T1.setTop (mkF m 97 #[.val (.int p1), .val (.int p2), .val (.long q3), .second, .val (.long q4), .second, .val (.int (p2 &&& (2147483647 : Int32))), .val (.int (0 : Int32)), .val (.long q3), .second, .val (.long (-2 : Int64)), .second, .val (.int (1 : Int32)), .val (.int (0 : Int32)), .unset, .unset, .unset, .unset, .unset] [(.ref b1)])) _
    refine XS.dup X1.here hx rfl (hb hby at_97) rfl rfl ?_
    show Steps p.tables e below (T1.setTop (mkF m 98 #[.val (.int p1), .val (.int p2), .val (.long q3), .second, .val (.long q4), .second, .val (.int (p2 &&& (2147483647 : Int32))), .val (.int (0 : Int32)), .val (.long q3), .second, .val (.long (-2 : Int64)), .second, .val (.int (1 : Int32)), .val (.int (0 : Int32)), .unset, .unset, .unset, .unset, .unset] [(.ref b1), (.ref b1)])) _
    refine XS.lload X1.here hx rfl (hb hby at_98) rfl ?_
    show Steps p.tables e below (T1.setTop (mkF m 100 #[.val (.int p1), .val (.int p2), .val (.long q3), .second, .val (.long q4), .second, .val (.int (p2 &&& (2147483647 : Int32))), .val (.int (0 : Int32)), .val (.long q3), .second, .val (.long (-2 : Int64)), .second, .val (.int (1 : Int32)), .val (.int (0 : Int32)), .unset, .unset, .unset, .unset, .unset] [(.long (-2 : Int64)), (.ref b1), (.ref b1)])) _
    refine XS.iload X1.here hx rfl (hb hby at_100) rfl ?_
    show Steps p.tables e below (T1.setTop (mkF m 102 #[.val (.int p1), .val (.int p2), .val (.long q3), .second, .val (.long q4), .second, .val (.int (p2 &&& (2147483647 : Int32))), .val (.int (0 : Int32)), .val (.long q3), .second, .val (.long (-2 : Int64)), .second, .val (.int (1 : Int32)), .val (.int (0 : Int32)), .unset, .unset, .unset, .unset, .unset] [(.int (p2 &&& (2147483647 : Int32))), (.long (-2 : Int64)), (.ref b1), (.ref b1)])) _
    refine XS.lload X1.here hx rfl (hb hby at_102) rfl ?_
    show Steps p.tables e below (T1.setTop (mkF m 104 #[.val (.int p1), .val (.int p2), .val (.long q3), .second, .val (.long q4), .second, .val (.int (p2 &&& (2147483647 : Int32))), .val (.int (0 : Int32)), .val (.long q3), .second, .val (.long (-2 : Int64)), .second, .val (.int (1 : Int32)), .val (.int (0 : Int32)), .unset, .unset, .unset, .unset, .unset] [(.long q3), (.int (p2 &&& (2147483647 : Int32))), (.long (-2 : Int64)), (.ref b1), (.ref b1)])) _
    refine st2.trans ?_
    show Steps p.tables e below (T2.setTop (mkF m 107 #[.val (.int p1), .val (.int p2), .val (.long q3), .second, .val (.long q4), .second, .val (.int (p2 &&& (2147483647 : Int32))), .val (.int (0 : Int32)), .val (.long q3), .second, .val (.long (-2 : Int64)), .second, .val (.int (1 : Int32)), .val (.int (0 : Int32)), .unset, .unset, .unset, .unset, .unset] [(.ref b1)])) _
    refine XS.astore X2.here hx rfl (hb hby at_107) rfl rfl (l' := #[.val (.int p1), .val (.int p2), .val (.long q3), .second, .val (.long q4), .second, .val (.int (p2 &&& (2147483647 : Int32))), .val (.int (0 : Int32)), .val (.long q3), .second, .val (.long (-2 : Int64)), .second, .val (.int (1 : Int32)), .val (.int (0 : Int32)), .val (.ref b1), .unset, .unset, .unset, .unset]) rfl ?_
    show Steps p.tables e below (T2.setTop (mkF m 109 #[.val (.int p1), .val (.int p2), .val (.long q3), .second, .val (.long q4), .second, .val (.int (p2 &&& (2147483647 : Int32))), .val (.int (0 : Int32)), .val (.long q3), .second, .val (.long (-2 : Int64)), .second, .val (.int (1 : Int32)), .val (.int (0 : Int32)), .val (.ref b1), .unset, .unset, .unset, .unset] [])) _
    refine XS.aload X2.here hx rfl (hb hby at_109) rfl rfl ?_
    show Steps p.tables e below (T2.setTop (mkF m 111 #[.val (.int p1), .val (.int p2), .val (.long q3), .second, .val (.long q4), .second, .val (.int (p2 &&& (2147483647 : Int32))), .val (.int (0 : Int32)), .val (.long q3), .second, .val (.long (-2 : Int64)), .second, .val (.int (1 : Int32)), .val (.int (0 : Int32)), .val (.ref b1), .unset, .unset, .unset, .unset] [(.ref b1)])) _
    refine st3.trans ?_
    show Steps p.tables e below (T3.setTop (mkF m 114 #[.val (.int p1), .val (.int p2), .val (.long q3), .second, .val (.long q4), .second, .val (.int (p2 &&& (2147483647 : Int32))), .val (.int (0 : Int32)), .val (.long q3), .second, .val (.long (-2 : Int64)), .second, .val (.int (1 : Int32)), .val (.int (0 : Int32)), .val (.ref b1), .unset, .unset, .unset, .unset] [(.int (0 : Int32))])) _
    refine XS.istore X3.here hx rfl (hb hby at_114) rfl (l' := #[.val (.int p1), .val (.int p2), .val (.long q3), .second, .val (.long q4), .second, .val (.int (p2 &&& (2147483647 : Int32))), .val (.int (0 : Int32)), .val (.long q3), .second, .val (.long (-2 : Int64)), .second, .val (.int (1 : Int32)), .val (.int (0 : Int32)), .val (.ref b1), .val (.int (0 : Int32)), .unset, .unset, .unset]) rfl ?_
    show Steps p.tables e below (T3.setTop (mkF m 116 #[.val (.int p1), .val (.int p2), .val (.long q3), .second, .val (.long q4), .second, .val (.int (p2 &&& (2147483647 : Int32))), .val (.int (0 : Int32)), .val (.long q3), .second, .val (.long (-2 : Int64)), .second, .val (.int (1 : Int32)), .val (.int (0 : Int32)), .val (.ref b1), .val (.int (0 : Int32)), .unset, .unset, .unset] [])) _
    refine XS.aload X3.here hx rfl (hb hby at_116) rfl rfl ?_
    show Steps p.tables e below (T3.setTop (mkF m 118 #[.val (.int p1), .val (.int p2), .val (.long q3), .second, .val (.long q4), .second, .val (.int (p2 &&& (2147483647 : Int32))), .val (.int (0 : Int32)), .val (.long q3), .second, .val (.long (-2 : Int64)), .second, .val (.int (1 : Int32)), .val (.int (0 : Int32)), .val (.ref b1), .val (.int (0 : Int32)), .unset, .unset, .unset] [(.ref b1)])) _
    refine st4.trans ?_
    show Steps p.tables e below (T4.setTop (mkF m 121 #[.val (.int p1), .val (.int p2), .val (.long q3), .second, .val (.long q4), .second, .val (.int (p2 &&& (2147483647 : Int32))), .val (.int (0 : Int32)), .val (.long q3), .second, .val (.long (-2 : Int64)), .second, .val (.int (1 : Int32)), .val (.int (0 : Int32)), .val (.ref b1), .val (.int (0 : Int32)), .unset, .unset, .unset] [(.int (1 : Int32))])) _
    refine XS.istore X4.here hx rfl (hb hby at_121) rfl (l' := #[.val (.int p1), .val (.int p2), .val (.long q3), .second, .val (.long q4), .second, .val (.int (p2 &&& (2147483647 : Int32))), .val (.int (0 : Int32)), .val (.long q3), .second, .val (.long (-2 : Int64)), .second, .val (.int (1 : Int32)), .val (.int (0 : Int32)), .val (.ref b1), .val (.int (0 : Int32)), .val (.int (1 : Int32)), .unset, .unset]) rfl ?_
    show Steps p.tables e below (T4.setTop (mkF m 123 #[.val (.int p1), .val (.int p2), .val (.long q3), .second, .val (.long q4), .second, .val (.int (p2 &&& (2147483647 : Int32))), .val (.int (0 : Int32)), .val (.long q3), .second, .val (.long (-2 : Int64)), .second, .val (.int (1 : Int32)), .val (.int (0 : Int32)), .val (.ref b1), .val (.int (0 : Int32)), .val (.int (1 : Int32)), .unset, .unset] [])) _
    refine XS.aload X4.here hx rfl (hb hby at_123) rfl rfl ?_
    show Steps p.tables e below (T4.setTop (mkF m 125 #[.val (.int p1), .val (.int p2), .val (.long q3), .second, .val (.long q4), .second, .val (.int (p2 &&& (2147483647 : Int32))), .val (.int (0 : Int32)), .val (.long q3), .second, .val (.long (-2 : Int64)), .second, .val (.int (1 : Int32)), .val (.int (0 : Int32)), .val (.ref b1), .val (.int (0 : Int32)), .val (.int (1 : Int32)), .unset, .unset] [(.ref b1)])) _
    refine st5.trans ?_
    show Steps p.tables e below (T5.setTop (mkF m 128 #[.val (.int p1), .val (.int p2), .val (.long q3), .second, .val (.long q4), .second, .val (.int (p2 &&& (2147483647 : Int32))), .val (.int (0 : Int32)), .val (.long q3), .second, .val (.long (-2 : Int64)), .second, .val (.int (1 : Int32)), .val (.int (0 : Int32)), .val (.ref b1), .val (.int (0 : Int32)), .val (.int (1 : Int32)), .unset, .unset] [])) _
    refine XS.aload X5.here hx rfl (hb hby at_128) rfl rfl ?_
    show Steps p.tables e below (T5.setTop (mkF m 130 #[.val (.int p1), .val (.int p2), .val (.long q3), .second, .val (.long q4), .second, .val (.int (p2 &&& (2147483647 : Int32))), .val (.int (0 : Int32)), .val (.long q3), .second, .val (.long (-2 : Int64)), .second, .val (.int (1 : Int32)), .val (.int (0 : Int32)), .val (.ref b1), .val (.int (0 : Int32)), .val (.int (1 : Int32)), .unset, .unset] [(.ref b1)])) _
    refine st6.trans ?_
    show Steps p.tables e below (T6.setTop (mkF m 133 #[.val (.int p1), .val (.int p2), .val (.long q3), .second, .val (.long q4), .second, .val (.int (p2 &&& (2147483647 : Int32))), .val (.int (0 : Int32)), .val (.long q3), .second, .val (.long (-2 : Int64)), .second, .val (.int (1 : Int32)), .val (.int (0 : Int32)), .val (.ref b1), .val (.int (0 : Int32)), .val (.int (1 : Int32)), .unset, .unset] [(.int (1 : Int32))])) _
    refine XS.istore X6.here hx rfl (hb hby at_133) rfl (l' := #[.val (.int p1), .val (.int p2), .val (.long q3), .second, .val (.long q4), .second, .val (.int (p2 &&& (2147483647 : Int32))), .val (.int (0 : Int32)), .val (.long q3), .second, .val (.long (-2 : Int64)), .second, .val (.int (1 : Int32)), .val (.int (0 : Int32)), .val (.ref b1), .val (.int (0 : Int32)), .val (.int (1 : Int32)), .val (.int (1 : Int32)), .unset]) rfl ?_
    show Steps p.tables e below (T6.setTop (mkF m 135 #[.val (.int p1), .val (.int p2), .val (.long q3), .second, .val (.long q4), .second, .val (.int (p2 &&& (2147483647 : Int32))), .val (.int (0 : Int32)), .val (.long q3), .second, .val (.long (-2 : Int64)), .second, .val (.int (1 : Int32)), .val (.int (0 : Int32)), .val (.ref b1), .val (.int (0 : Int32)), .val (.int (1 : Int32)), .val (.int (1 : Int32)), .unset] [])) _
    refine XS.aload X6.here hx rfl (hb hby at_135) rfl rfl ?_
    show Steps p.tables e below (T6.setTop (mkF m 137 #[.val (.int p1), .val (.int p2), .val (.long q3), .second, .val (.long q4), .second, .val (.int (p2 &&& (2147483647 : Int32))), .val (.int (0 : Int32)), .val (.long q3), .second, .val (.long (-2 : Int64)), .second, .val (.int (1 : Int32)), .val (.int (0 : Int32)), .val (.ref b1), .val (.int (0 : Int32)), .val (.int (1 : Int32)), .val (.int (1 : Int32)), .unset] [(.ref b1)])) _
    refine st7.trans ?_
    show Steps p.tables e below (T7.setTop (mkF m 140 #[.val (.int p1), .val (.int p2), .val (.long q3), .second, .val (.long q4), .second, .val (.int (p2 &&& (2147483647 : Int32))), .val (.int (0 : Int32)), .val (.long q3), .second, .val (.long (-2 : Int64)), .second, .val (.int (1 : Int32)), .val (.int (0 : Int32)), .val (.ref b1), .val (.int (0 : Int32)), .val (.int (1 : Int32)), .val (.int (1 : Int32)), .unset] [])) _
    refine XS.aload X7.here hx rfl (hb hby at_140) rfl rfl ?_
    show Steps p.tables e below (T7.setTop (mkF m 142 #[.val (.int p1), .val (.int p2), .val (.long q3), .second, .val (.long q4), .second, .val (.int (p2 &&& (2147483647 : Int32))), .val (.int (0 : Int32)), .val (.long q3), .second, .val (.long (-2 : Int64)), .second, .val (.int (1 : Int32)), .val (.int (0 : Int32)), .val (.ref b1), .val (.int (0 : Int32)), .val (.int (1 : Int32)), .val (.int (1 : Int32)), .unset] [(.ref b1)])) _
    refine st8.trans ?_
    show Steps p.tables e below (T8.setTop (mkF m 145 #[.val (.int p1), .val (.int p2), .val (.long q3), .second, .val (.long q4), .second, .val (.int (p2 &&& (2147483647 : Int32))), .val (.int (0 : Int32)), .val (.long q3), .second, .val (.long (-2 : Int64)), .second, .val (.int (1 : Int32)), .val (.int (0 : Int32)), .val (.ref b1), .val (.int (0 : Int32)), .val (.int (1 : Int32)), .val (.int (1 : Int32)), .unset] [(.int (1 : Int32))])) _
    refine XS.istore X8.here hx rfl (hb hby at_145) rfl (l' := #[.val (.int p1), .val (.int p2), .val (.long q3), .second, .val (.long q4), .second, .val (.int (p2 &&& (2147483647 : Int32))), .val (.int (0 : Int32)), .val (.long q3), .second, .val (.long (-2 : Int64)), .second, .val (.int (1 : Int32)), .val (.int (0 : Int32)), .val (.ref b1), .val (.int (0 : Int32)), .val (.int (1 : Int32)), .val (.int (1 : Int32)), .val (.int (1 : Int32))]) rfl ?_
    show Steps p.tables e below (T8.setTop (mkF m 147 #[.val (.int p1), .val (.int p2), .val (.long q3), .second, .val (.long q4), .second, .val (.int (p2 &&& (2147483647 : Int32))), .val (.int (0 : Int32)), .val (.long q3), .second, .val (.long (-2 : Int64)), .second, .val (.int (1 : Int32)), .val (.int (0 : Int32)), .val (.ref b1), .val (.int (0 : Int32)), .val (.int (1 : Int32)), .val (.int (1 : Int32)), .val (.int (1 : Int32))] [])) _
    refine XS.iload X8.here hx rfl (hb hby at_147) rfl ?_
    show Steps p.tables e below (T8.setTop (mkF m 149 #[.val (.int p1), .val (.int p2), .val (.long q3), .second, .val (.long q4), .second, .val (.int (p2 &&& (2147483647 : Int32))), .val (.int (0 : Int32)), .val (.long q3), .second, .val (.long (-2 : Int64)), .second, .val (.int (1 : Int32)), .val (.int (0 : Int32)), .val (.ref b1), .val (.int (0 : Int32)), .val (.int (1 : Int32)), .val (.int (1 : Int32)), .val (.int (1 : Int32))] [(.int (0 : Int32))])) _
    refine XS.iload X8.here hx rfl (hb hby at_149) rfl ?_
    show Steps p.tables e below (T8.setTop (mkF m 151 #[.val (.int p1), .val (.int p2), .val (.long q3), .second, .val (.long q4), .second, .val (.int (p2 &&& (2147483647 : Int32))), .val (.int (0 : Int32)), .val (.long q3), .second, .val (.long (-2 : Int64)), .second, .val (.int (1 : Int32)), .val (.int (0 : Int32)), .val (.ref b1), .val (.int (0 : Int32)), .val (.int (1 : Int32)), .val (.int (1 : Int32)), .val (.int (1 : Int32))] [(.int (0 : Int32)), (.int (0 : Int32))])) _
    refine XS.icmpNo X8.here hx rfl (hb hby at_151) rfl (teq ((by decide) : (0 : Int32) = (0 : Int32))).2 ?_
    show Steps p.tables e below (T8.setTop (mkF m 154 #[.val (.int p1), .val (.int p2), .val (.long q3), .second, .val (.long q4), .second, .val (.int (p2 &&& (2147483647 : Int32))), .val (.int (0 : Int32)), .val (.long q3), .second, .val (.long (-2 : Int64)), .second, .val (.int (1 : Int32)), .val (.int (0 : Int32)), .val (.ref b1), .val (.int (0 : Int32)), .val (.int (1 : Int32)), .val (.int (1 : Int32)), .val (.int (1 : Int32))] [])) _
    refine XS.iload X8.here hx rfl (hb hby at_154) rfl ?_
    show Steps p.tables e below (T8.setTop (mkF m 156 #[.val (.int p1), .val (.int p2), .val (.long q3), .second, .val (.long q4), .second, .val (.int (p2 &&& (2147483647 : Int32))), .val (.int (0 : Int32)), .val (.long q3), .second, .val (.long (-2 : Int64)), .second, .val (.int (1 : Int32)), .val (.int (0 : Int32)), .val (.ref b1), .val (.int (0 : Int32)), .val (.int (1 : Int32)), .val (.int (1 : Int32)), .val (.int (1 : Int32))] [(.int (1 : Int32))])) _
    refine XS.iload X8.here hx rfl (hb hby at_156) rfl ?_
    show Steps p.tables e below (T8.setTop (mkF m 158 #[.val (.int p1), .val (.int p2), .val (.long q3), .second, .val (.long q4), .second, .val (.int (p2 &&& (2147483647 : Int32))), .val (.int (0 : Int32)), .val (.long q3), .second, .val (.long (-2 : Int64)), .second, .val (.int (1 : Int32)), .val (.int (0 : Int32)), .val (.ref b1), .val (.int (0 : Int32)), .val (.int (1 : Int32)), .val (.int (1 : Int32)), .val (.int (1 : Int32))] [(.int (1 : Int32)), (.int (1 : Int32))])) _
    refine XS.icmpNo X8.here hx rfl (hb hby at_158) rfl (teq ((by decide) : (1 : Int32) = (1 : Int32))).2 ?_
    show Steps p.tables e below (T8.setTop (mkF m 161 #[.val (.int p1), .val (.int p2), .val (.long q3), .second, .val (.long q4), .second, .val (.int (p2 &&& (2147483647 : Int32))), .val (.int (0 : Int32)), .val (.long q3), .second, .val (.long (-2 : Int64)), .second, .val (.int (1 : Int32)), .val (.int (0 : Int32)), .val (.ref b1), .val (.int (0 : Int32)), .val (.int (1 : Int32)), .val (.int (1 : Int32)), .val (.int (1 : Int32))] [])) _
    refine XS.iload X8.here hx rfl (hb hby at_161) rfl ?_
    show Steps p.tables e below (T8.setTop (mkF m 163 #[.val (.int p1), .val (.int p2), .val (.long q3), .second, .val (.long q4), .second, .val (.int (p2 &&& (2147483647 : Int32))), .val (.int (0 : Int32)), .val (.long q3), .second, .val (.long (-2 : Int64)), .second, .val (.int (1 : Int32)), .val (.int (0 : Int32)), .val (.ref b1), .val (.int (0 : Int32)), .val (.int (1 : Int32)), .val (.int (1 : Int32)), .val (.int (1 : Int32))] [(.int (1 : Int32))])) _
    refine XS.ifNo X8.here hx rfl (hb hby at_163) rfl ((if0 _ _).trans (feq ((by decide) : ¬ ((1 : Int32) = (0 : Int32)))).1) ?_
    show Steps p.tables e below (T8.setTop (mkF m 166 #[.val (.int p1), .val (.int p2), .val (.long q3), .second, .val (.long q4), .second, .val (.int (p2 &&& (2147483647 : Int32))), .val (.int (0 : Int32)), .val (.long q3), .second, .val (.long (-2 : Int64)), .second, .val (.int (1 : Int32)), .val (.int (0 : Int32)), .val (.ref b1), .val (.int (0 : Int32)), .val (.int (1 : Int32)), .val (.int (1 : Int32)), .val (.int (1 : Int32))] [])) _
    refine XS.iload X8.here hx rfl (hb hby at_166) rfl ?_
    show Steps p.tables e below (T8.setTop (mkF m 168 #[.val (.int p1), .val (.int p2), .val (.long q3), .second, .val (.long q4), .second, .val (.int (p2 &&& (2147483647 : Int32))), .val (.int (0 : Int32)), .val (.long q3), .second, .val (.long (-2 : Int64)), .second, .val (.int (1 : Int32)), .val (.int (0 : Int32)), .val (.ref b1), .val (.int (0 : Int32)), .val (.int (1 : Int32)), .val (.int (1 : Int32)), .val (.int (1 : Int32))] [(.int (1 : Int32))])) _
    refine XS.ifNo X8.here hx rfl (hb hby at_168) rfl ((if0 _ _).trans (feq ((by decide) : ¬ ((1 : Int32) = (0 : Int32)))).1) ?_
    show Steps p.tables e below (T8.setTop (mkF m 171 #[.val (.int p1), .val (.int p2), .val (.long q3), .second, .val (.long q4), .second, .val (.int (p2 &&& (2147483647 : Int32))), .val (.int (0 : Int32)), .val (.long q3), .second, .val (.long (-2 : Int64)), .second, .val (.int (1 : Int32)), .val (.int (0 : Int32)), .val (.ref b1), .val (.int (0 : Int32)), .val (.int (1 : Int32)), .val (.int (1 : Int32)), .val (.int (1 : Int32))] [])) _
    refine XS.aload X8.here hx rfl (hb hby at_171) rfl rfl ?_
    show Steps p.tables e below (T8.setTop (mkF m 173 #[.val (.int p1), .val (.int p2), .val (.long q3), .second, .val (.long q4), .second, .val (.int (p2 &&& (2147483647 : Int32))), .val (.int (0 : Int32)), .val (.long q3), .second, .val (.long (-2 : Int64)), .second, .val (.int (1 : Int32)), .val (.int (0 : Int32)), .val (.ref b1), .val (.int (0 : Int32)), .val (.int (1 : Int32)), .val (.int (1 : Int32)), .val (.int (1 : Int32))] [(.ref b1)])) _
    refine st9.trans ?_
    show Steps p.tables e below (T9.setTop (mkF m 176 #[.val (.int p1), .val (.int p2), .val (.long q3), .second, .val (.long q4), .second, .val (.int (p2 &&& (2147483647 : Int32))), .val (.int (0 : Int32)), .val (.long q3), .second, .val (.long (-2 : Int64)), .second, .val (.int (1 : Int32)), .val (.int (0 : Int32)), .val (.ref b1), .val (.int (0 : Int32)), .val (.int (1 : Int32)), .val (.int (1 : Int32)), .val (.int (1 : Int32))] [(.int (1 : Int32))])) _
    refine XS.iload X9.here hx rfl (hb hby at_176) rfl ?_
    show Steps p.tables e below (T9.setTop (mkF m 178 #[.val (.int p1), .val (.int p2), .val (.long q3), .second, .val (.long q4), .second, .val (.int (p2 &&& (2147483647 : Int32))), .val (.int (0 : Int32)), .val (.long q3), .second, .val (.long (-2 : Int64)), .second, .val (.int (1 : Int32)), .val (.int (0 : Int32)), .val (.ref b1), .val (.int (0 : Int32)), .val (.int (1 : Int32)), .val (.int (1 : Int32)), .val (.int (1 : Int32))] [(.int (1 : Int32)), (.int (1 : Int32))])) _
    refine XS.icmpNo X9.here hx rfl (hb hby at_178) rfl (teq ((by decide) : (1 : Int32) = (1 : Int32))).2 ?_
    show Steps p.tables e below (T9.setTop (mkF m 181 #[.val (.int p1), .val (.int p2), .val (.long q3), .second, .val (.long q4), .second, .val (.int (p2 &&& (2147483647 : Int32))), .val (.int (0 : Int32)), .val (.long q3), .second, .val (.long (-2 : Int64)), .second, .val (.int (1 : Int32)), .val (.int (0 : Int32)), .val (.ref b1), .val (.int (0 : Int32)), .val (.int (1 : Int32)), .val (.int (1 : Int32)), .val (.int (1 : Int32))] [])) _
    refine XS.aload X9.here hx rfl (hb hby at_181) rfl rfl ?_
    show Steps p.tables e below (T9.setTop (mkF m 183 #[.val (.int p1), .val (.int p2), .val (.long q3), .second, .val (.long q4), .second, .val (.int (p2 &&& (2147483647 : Int32))), .val (.int (0 : Int32)), .val (.long q3), .second, .val (.long (-2 : Int64)), .second, .val (.int (1 : Int32)), .val (.int (0 : Int32)), .val (.ref b1), .val (.int (0 : Int32)), .val (.int (1 : Int32)), .val (.int (1 : Int32)), .val (.int (1 : Int32))] [(.ref b1)])) _
    refine st10.trans ?_
    show Steps p.tables e below (T10.setTop (mkF m 186 #[.val (.int p1), .val (.int p2), .val (.long q3), .second, .val (.long q4), .second, .val (.int (p2 &&& (2147483647 : Int32))), .val (.int (0 : Int32)), .val (.long q3), .second, .val (.long (-2 : Int64)), .second, .val (.int (1 : Int32)), .val (.int (0 : Int32)), .val (.ref b1), .val (.int (0 : Int32)), .val (.int (1 : Int32)), .val (.int (1 : Int32)), .val (.int (1 : Int32))] [(.ref b10)])) _
    refine X10.arraylength hx Ar11.1 (State.isArrayOf_alike hZ.alike Ar11.2.1) (g := (mkF m 186 #[.val (.int p1), .val (.int p2), .val (.long q3), .second, .val (.long q4), .second, .val (.int (p2 &&& (2147483647 : Int32))), .val (.int (0 : Int32)), .val (.long q3), .second, .val (.long (-2 : Int64)), .second, .val (.int (1 : Int32)), .val (.int (0 : Int32)), .val (.ref b1), .val (.int (0 : Int32)), .val (.int (1 : Int32)), .val (.int (1 : Int32)), .val (.int (1 : Int32))] [(.ref b10)])) rfl rfl (hb hby at_186) _ ?_
    rw [len_of Sz11 Nz11]
    show Steps p.tables e below (T10.setTop (mkF m 187 #[.val (.int p1), .val (.int p2), .val (.long q3), .second, .val (.long q4), .second, .val (.int (p2 &&& (2147483647 : Int32))), .val (.int (0 : Int32)), .val (.long q3), .second, .val (.long (-2 : Int64)), .second, .val (.int (1 : Int32)), .val (.int (0 : Int32)), .val (.ref b1), .val (.int (0 : Int32)), .val (.int (1 : Int32)), .val (.int (1 : Int32)), .val (.int (1 : Int32))] [(.int (0 : Int32))])) _
    refine XS.ifNo X10.here hx rfl (hb hby at_187) rfl ((if0 _ _).trans (teq ((by decide) : (0 : Int32) = (0 : Int32))).2) ?_
    show Steps p.tables e below (T10.setTop (mkF m 190 #[.val (.int p1), .val (.int p2), .val (.long q3), .second, .val (.long q4), .second, .val (.int (p2 &&& (2147483647 : Int32))), .val (.int (0 : Int32)), .val (.long q3), .second, .val (.long (-2 : Int64)), .second, .val (.int (1 : Int32)), .val (.int (0 : Int32)), .val (.ref b1), .val (.int (0 : Int32)), .val (.int (1 : Int32)), .val (.int (1 : Int32)), .val (.int (1 : Int32))] [])) _
    refine XS.iconst X10.here hx rfl (hb hby at_190) ?_
    show Steps p.tables e below (T10.setTop (mkF m 191 #[.val (.int p1), .val (.int p2), .val (.long q3), .second, .val (.long q4), .second, .val (.int (p2 &&& (2147483647 : Int32))), .val (.int (0 : Int32)), .val (.long q3), .second, .val (.long (-2 : Int64)), .second, .val (.int (1 : Int32)), .val (.int (0 : Int32)), .val (.ref b1), .val (.int (0 : Int32)), .val (.int (1 : Int32)), .val (.int (1 : Int32)), .val (.int (1 : Int32))] [(.int (1 : Int32))])) _
    refine XS.goto X10.here hx rfl (pc0 := 191) (pc' := 195) rfl (hb hby at_191) (by decide) (by decide) ?_
    show Steps p.tables e below (T10.setTop (mkF m 195 #[.val (.int p1), .val (.int p2), .val (.long q3), .second, .val (.long q4), .second, .val (.int (p2 &&& (2147483647 : Int32))), .val (.int (0 : Int32)), .val (.long q3), .second, .val (.long (-2 : Int64)), .second, .val (.int (1 : Int32)), .val (.int (0 : Int32)), .val (.ref b1), .val (.int (0 : Int32)), .val (.int (1 : Int32)), .val (.int (1 : Int32)), .val (.int (1 : Int32))] [(.int (1 : Int32))])) _
    exact retN X10 hx (t := .boolean) Bd.returns (by simp) (hb hby at_195) hr
  · show Q0 n0 _ T10.heap _
    exact ⟨rfl, N10⟩
set_option maxRecDepth 65536 in
set_option maxHeartbeats 40000000 in
theorem rm0_1a (l : Launch) (Z : State) (a0 : Array Value) (hw : ∀ d ∈ tables_1, d.before a0 Z = true) (ws : List Jvm.Cond) {w_n2 : Addr} {w_n3 : Addr} {w_n4 : Addr} {w_n1 : Addr} {v_n0 : Int32} (W : Wd Z w_n2 w_n3 w_n4 w_n1 v_n0) (p1 : Int32) (p2 : Int32) (q3 : Int64) (q4 : Int64) (h0 : Heap) (n0 : Nat) (O0 : Old Z n0 h0) (hk : ((p1 &&& (2147483647 : Int32)) % (3 : Int32)) = (1 : Int32)) (xm : ¬ ((0 : Int32) < (lcmpW (0 : Int64) ((p2 &&& (2147483647 : Int32)).toInt64)))) (xs : ¬ ((lcmpW q3 (0 : Int64)) < (0 : Int32))) (xk : ¬ ((0 : Int32) < (lcmpW (0 : Int64) q3))) :
    MetFree l x (head1 (Jvm.Cond.code x code maxLocals ret :: ws) room_1) (fun a U => a = #[(.int p1), (.int p2), (.long q3), (.long q4)] ∧ Z.Warmed39 U.vm ∧ U.heap = h0) (fun _ _ _ _ _ => True) (fun _ U o U' => ∃ v L, o = .returned v ∧ Q0 n0 v U'.heap L ∧ FrameEnd U o U' L room_1.cells room_1.slots) := by
  have W' := W; obtain ⟨S_n2, E_n2, S_n3, E_n3, S_n4, E_n4, S_n1, E_n1, S_n0, N_n0, F_n2_ordinal, F_n3_ordinal⟩ := W'
  refine MetFree.of_bodySF (plainFor_of_name pn_0) hisR ?_
  intro p e s m args below meth c s₁ Bd hml0 hP hK
  obtain ⟨rfl, hZ, hh⟩ := hP
  have hx := Bd.exec
  have hby := Bd.bytes
  have hml : c.maxLocals = 19 := hml0
  have hown : s.vm.findClass "com/example/tillwire/tillwire/BodyReaderEndPinLaw" = some m.cls := findClass_of_methodNamed Bd.named
  have hnm := (name_of_methodNamed Bd.named Bd.method).1
  have X0 : Stand p l e room_1 s m #[(.int p1), (.int p2), (.long q3), (.long q4)] below meth c s₁ [] 0 0 := Stand.of_body Bd
  have e0 : s₁.heap = h0 := by rw [← hh, Bd.state]; rfl
  have N0 := Fr.nil n0
  have pre0 : ∀ t, Steps p.tables e below (s₁.setTop (mkF m 0 #[.val (.int p1), .val (.int p2), .val (.long q3), .second, .val (.long q4), .second, .unset, .unset, .unset, .unset, .unset, .unset, .unset, .unset, .unset, .unset, .unset, .unset, .unset] [])) t → Steps p.tables e below (s₁.setTop (entryFrame m #[(.int p1), (.int p2), (.long q3), (.long q4)] maxLocals)) t := fun t k => castTop (ef_0_16 m p1 p2 q3 q4) k
  obtain ⟨T1, h1, X1, e1, E1, A1, D1, U1, st1⟩ := newO X0 hx hZ hown (hw _ (List.mem_of_getElem? (i := 2) rfl)) (hw _ (List.mem_of_getElem? (i := 3) rfl)) (hw _ (List.mem_of_getElem? (i := 4) rfl)) e0 (g := (mkF m 94 #[.val (.int p1), .val (.int p2), .val (.long q3), .second, .val (.long q4), .second, .val (.int (p2 &&& (2147483647 : Int32))), .val (.int (1 : Int32)), .val (.long q3), .second, .val (.long (0 : Int64)), .second, .val (.int (1 : Int32)), .val (.int (1 : Int32)), .unset, .unset, .unset, .unset, .unset] [])) rfl (hb hby at_94) (by decide) (by decide)
  obtain ⟨b1, g1⟩ : ∃ z, z = h0.size := ⟨_, rfl⟩
  rw [← g1] at A1 D1 U1 st1
  have g_b1 : n0 ≤ b1 := by rw [g1]; exact O0.1 ▸ O0.2.1
  have O1 := O0.ext E1
  have f1_kept : Fld Z h1 b1 "com/example/tillwire/tillwire/HttpFraming$BodyReader" "kept" "Ljava/io/ByteArrayOutputStream;" .null := D1 (Or.inr (hw _ (List.mem_of_getElem? (i := 32) rfl))) (ty := (.object "java/io/ByteArrayOutputStream")) (by decide)
  have f1_line : Fld Z h1 b1 "com/example/tillwire/tillwire/HttpFraming$BodyReader" "line" "Lcom/example/tillwire/tillwire/HttpFraming$Line;" .null := D1 (Or.inr (hw _ (List.mem_of_getElem? (i := 62) rfl))) (ty := (.object "com/example/tillwire/tillwire/HttpFraming$Line")) (by decide)
  have f1_whole : Fld Z h1 b1 "com/example/tillwire/tillwire/HttpFraming$BodyReader" "whole" "Z" (.int (0 : Int32)) := D1 (Or.inl (hw _ (List.mem_of_getElem? (i := 64) rfl))) (ty := .boolean) (by decide)
  have f1_chunked : Fld Z h1 b1 "com/example/tillwire/tillwire/HttpFraming$BodyReader" "chunked" "Z" (.int (0 : Int32)) := D1 (Or.inr (hw _ (List.mem_of_getElem? (i := 67) rfl))) (ty := .boolean) (by decide)
  have f1_keep : Fld Z h1 b1 "com/example/tillwire/tillwire/HttpFraming$BodyReader" "keep" "I" (.int (0 : Int32)) := D1 (Or.inr (hw _ (List.mem_of_getElem? (i := 69) rfl))) (ty := .int) (by decide)
  have f1_skip : Fld Z h1 b1 "com/example/tillwire/tillwire/HttpFraming$BodyReader" "skip" "J" (.long (0 : Int64)) := D1 (Or.inr (hw _ (List.mem_of_getElem? (i := 71) rfl))) (ty := .long) (by decide)
  have f1_part : Fld Z h1 b1 "com/example/tillwire/tillwire/HttpFraming$BodyReader" "part" "Lcom/example/tillwire/tillwire/HttpFraming$BodyReader$Part;" .null := D1 (Or.inl (hw _ (List.mem_of_getElem? (i := 77) rfl))) (ty := (.object "com/example/tillwire/tillwire/HttpFraming$BodyReader$Part")) (by decide)
  have f1_passed : Fld Z h1 b1 "com/example/tillwire/tillwire/HttpFraming$BodyReader" "passed" "J" (.long (0 : Int64)) := D1 (Or.inl (hw _ (List.mem_of_getElem? (i := 123) rfl))) (ty := .long) (by decide)
  have f1_left : Fld Z h1 b1 "com/example/tillwire/tillwire/HttpFraming$BodyReader" "left" "J" (.long (0 : Int64)) := D1 (Or.inl (hw _ (List.mem_of_getElem? (i := 127) rfl))) (ty := .long) (by decide)
  have f1_skipped : Fld Z h1 b1 "com/example/tillwire/tillwire/HttpFraming$BodyReader" "skipped" "J" (.long (0 : Int64)) := D1 (Or.inl (hw _ (List.mem_of_getElem? (i := 133) rfl))) (ty := .long) (by decide)
  obtain ⟨_, _, ⟨T2, L2, k2, n2⟩, -, X2, ⟨Lc2, hQ2, l2, y2, z2⟩, st2⟩ := X1.specialBack hx (y := (⟨"com/example/tillwire/tillwire/HttpFraming$BodyReader", "<init>", "(JIJ)V"⟩ : MethodName)) rfl hown (mvT hZ (hw _ (List.mem_of_getElem? (i := 5) rfl))) (mvT hZ (hw _ (List.mem_of_getElem? (i := 6) rfl))) (mvT hZ (hw _ (List.mem_of_getElem? (i := 7) rfl))) (by decide) (backOf (W := 1) (rm_n1a l Z a0 hw [] W b1 (p2 &&& (2147483647 : Int32)) q3 h1 n0 O1 xm xk g_b1 A1 f1_kept f1_line f1_whole f1_chunked f1_keep f1_skip f1_part f1_passed f1_left f1_skipped) hZ (hw _ (List.mem_of_getElem? (i := 7) rfl)) (hw _ (List.mem_of_getElem? (i := 4) rfl)) (by decide) (by decide)) (g := (mkF m 104 #[.val (.int p1), .val (.int p2), .val (.long q3), .second, .val (.long q4), .second, .val (.int (p2 &&& (2147483647 : Int32))), .val (.int (1 : Int32)), .val (.long q3), .second, .val (.long (0 : Int64)), .second, .val (.int (1 : Int32)), .val (.int (1 : Int32)), .unset, .unset, .unset, .unset, .unset] [(.long q3), (.int (p2 &&& (2147483647 : Int32))), (.long (0 : Int64)), (.ref b1), (.ref b1)])) rfl (by rw [hml]; rfl) (Steps.refl _) (a := b1) (argsL := [(.long (0 : Int64)), (.int (p2 &&& (2147483647 : Int32))), (.long q3)]) (rest := [(.ref b1)]) (lenOf pd_6 rfl) rfl (by show 2 * 0 + _ ≤ _; exact Nat.le_of_eq rfl) (hb hby at_104) (fun _ _ => ⟨rfl, e1, (by decide : 1 + 5 ≤ _), (by decide : 11 + 56 ≤ _)⟩)
  dsimp only [Pt.U, Pt.locs, Pt.cells, Pt.slots] at X2 l2 y2 z2 st2 hQ2
  subst l2 y2 z2
  obtain ⟨N2q, hP2⟩ := hQ2
  have N2 := Fr.app N0 N2q
  obtain ⟨b2_b2, b2_b3_b1_b2, k2_k3_k1_k2, rfl, Kp2, g_b2_b2, si_b2_b2, g_b2_b3_b1_b2, si_b2_b3_b1_b2, fp2_0, fp2_1, fp2_2, fp2_3, fp2_4, fp2_5, fp2_6, fp2_7, fp2_8, fp2_9⟩ := hP2
  have f2_0 : Exa Z T2.heap b1 "com/example/tillwire/tillwire/HttpFraming$BodyReader" := (A1).keep Kp2
  have O2 := O1.keep Kp2 (allS g_b1 all0)
  obtain ⟨cq3, kq3, q3a, q3b, q3c⟩ := isOf hZ rfl fp2_0
  obtain ⟨_, _, ⟨T3, L3, k3, n3⟩, -, X3, ⟨Lc3, hQ3, l3, y3, z3⟩, st3⟩ := X2.virtualBack hx (y := (⟨"com/example/tillwire/tillwire/HttpFraming$BodyReader", "done", "()Z"⟩ : MethodName)) (z := (⟨"com/example/tillwire/tillwire/HttpFraming$BodyReader", "done", "()Z"⟩ : MethodName)) hown (mvT hZ (hw _ (List.mem_of_getElem? (i := 78) rfl))) (mvT hZ (hw _ (List.mem_of_getElem? (i := 79) rfl))) (notFace_of_selects (args := #[]) (mvT hZ (hw _ (List.mem_of_getElem? (i := 81) rfl)))) (mvT hZ (hw _ (List.mem_of_getElem? (i := 81) rfl))) (mvT hZ (hw _ (List.mem_of_getElem? (i := 80) rfl))) (by decide) (backOf (W := 0) (rm_dnDONE l Z a0 hw [] W b1 T2.heap n0 O2 fp2_3) hZ (hw _ (List.mem_of_getElem? (i := 82) rfl)) (hw _ (List.mem_of_getElem? (i := 4) rfl)) (by decide) (by decide)) q3a q3c (g := (mkF m 111 #[.val (.int p1), .val (.int p2), .val (.long q3), .second, .val (.long q4), .second, .val (.int (p2 &&& (2147483647 : Int32))), .val (.int (1 : Int32)), .val (.long q3), .second, .val (.long (0 : Int64)), .second, .val (.int (1 : Int32)), .val (.int (1 : Int32)), .val (.ref b1), .unset, .unset, .unset, .unset] [(.ref b1)])) rfl (by rw [hml]; rfl) (Steps.refl _) (argsL := []) (rest := []) (lenOf pd_7 rfl) rfl (by show 2 * 0 + _ ≤ _; exact Nat.le_of_eq rfl) (hb hby at_111) (fun _ _ => ⟨rfl, rfl, (by decide : 6 + 0 ≤ _), (by decide : 67 + 0 ≤ _)⟩)
  dsimp only [Pt.U, Pt.locs, Pt.cells, Pt.slots] at X3 l3 y3 z3 st3 hQ3
  subst l3 y3 z3
  obtain ⟨rfl, N3q, e3⟩ := hQ3
  have N3 := Fr.app N2 N3q
  obtain ⟨cq4, kq4, q4a, q4b, q4c⟩ := isOf hZ e3 fp2_0
  obtain ⟨_, _, ⟨T4, L4, k4, n4⟩, -, X4, ⟨Lc4, hQ4, l4, y4, z4⟩, st4⟩ := X3.virtualBack hx (y := (⟨"com/example/tillwire/tillwire/HttpFraming$BodyReader", "whole", "()Z"⟩ : MethodName)) (z := (⟨"com/example/tillwire/tillwire/HttpFraming$BodyReader", "whole", "()Z"⟩ : MethodName)) hown (mvT hZ (hw _ (List.mem_of_getElem? (i := 85) rfl))) (mvT hZ (hw _ (List.mem_of_getElem? (i := 86) rfl))) (notFace_of_selects (args := #[]) (mvT hZ (hw _ (List.mem_of_getElem? (i := 88) rfl)))) (mvT hZ (hw _ (List.mem_of_getElem? (i := 88) rfl))) (mvT hZ (hw _ (List.mem_of_getElem? (i := 87) rfl))) (by decide) (backOf (W := 0) (rm_wh1 l Z a0 hw [] W b1 T2.heap n0 O2 fp2_2) hZ (hw _ (List.mem_of_getElem? (i := 89) rfl)) (hw _ (List.mem_of_getElem? (i := 4) rfl)) (by decide) (by decide)) q4a q4c (g := (mkF m 118 #[.val (.int p1), .val (.int p2), .val (.long q3), .second, .val (.long q4), .second, .val (.int (p2 &&& (2147483647 : Int32))), .val (.int (1 : Int32)), .val (.long q3), .second, .val (.long (0 : Int64)), .second, .val (.int (1 : Int32)), .val (.int (1 : Int32)), .val (.ref b1), .val (.int (1 : Int32)), .unset, .unset, .unset] [(.ref b1)])) rfl (by rw [hml]; rfl) (Steps.refl _) (argsL := []) (rest := []) (lenOf pd_7 rfl) rfl (by show 2 * 0 + _ ≤ _; exact Nat.le_of_eq rfl) (hb hby at_118) (fun _ _ => ⟨rfl, e3, (by decide : 6 + 0 ≤ _), (by decide : 67 + 0 ≤ _)⟩)
  dsimp only [Pt.U, Pt.locs, Pt.cells, Pt.slots] at X4 l4 y4 z4 st4 hQ4
  subst l4 y4 z4
  obtain ⟨rfl, N4q, e4⟩ := hQ4
  have N4 := Fr.app N3 N4q
  obtain ⟨cq5, kq5, q5a, q5b, q5c⟩ := isOf hZ e4 fp2_0
  obtain ⟨_, _, ⟨T5, L5, k5, n5⟩, -, X5, ⟨Lc5, hQ5, l5, y5, z5⟩, st5⟩ := X4.virtualBack hx (y := (⟨"com/example/tillwire/tillwire/HttpFraming$BodyReader", "end", "()V"⟩ : MethodName)) (z := (⟨"com/example/tillwire/tillwire/HttpFraming$BodyReader", "end", "()V"⟩ : MethodName)) hown (mvT hZ (hw _ (List.mem_of_getElem? (i := 90) rfl))) (mvT hZ (hw _ (List.mem_of_getElem? (i := 91) rfl))) (notFace_of_selects (args := #[]) (mvT hZ (hw _ (List.mem_of_getElem? (i := 93) rfl)))) (mvT hZ (hw _ (List.mem_of_getElem? (i := 93) rfl))) (mvT hZ (hw _ (List.mem_of_getElem? (i := 92) rfl))) (by decide) (backOf (W := 0) (rm_enDONE l Z a0 hw [] W b1 b2_b2 (1 : Int32) T2.heap n0 O2 g_b1 fp2_0 fp2_1 fp2_2 fp2_3) hZ (hw _ (List.mem_of_getElem? (i := 94) rfl)) (hw _ (List.mem_of_getElem? (i := 4) rfl)) (by decide) (by decide)) q5a q5c (g := (mkF m 125 #[.val (.int p1), .val (.int p2), .val (.long q3), .second, .val (.long q4), .second, .val (.int (p2 &&& (2147483647 : Int32))), .val (.int (1 : Int32)), .val (.long q3), .second, .val (.long (0 : Int64)), .second, .val (.int (1 : Int32)), .val (.int (1 : Int32)), .val (.ref b1), .val (.int (1 : Int32)), .val (.int (1 : Int32)), .unset, .unset] [(.ref b1)])) rfl (by rw [hml]; rfl) (Steps.refl _) (argsL := []) (rest := []) (lenOf pd_0 rfl) rfl (by show 2 * 0 + _ ≤ _; exact Nat.le_of_eq rfl) (hb hby at_125) (fun _ _ => ⟨rfl, e4, (by decide : 6 + 0 ≤ _), (by decide : 67 + 0 ≤ _)⟩)
  dsimp only [Pt.U, Pt.locs, Pt.cells, Pt.slots] at X5 l5 y5 z5 st5 hQ5
  subst l5 y5 z5
  obtain ⟨N5q, hP5⟩ := hQ5
  have N5 := Fr.app N4 N5q
  obtain ⟨rfl, Kp5, fp5_0, fp5_1, fp5_2, fp5_3⟩ := hP5
  have f5_0 : Exa Z T5.heap b1 "com/example/tillwire/tillwire/HttpFraming$BodyReader" := (fp2_0).keep Kp5
  have f5_1 : Exa Z T5.heap b2_b2 "java/io/ByteArrayOutputStream" := (fp2_4).keep Kp5
  have f5_2 : Unt T5.heap b2_b2 := own_untk fp2_5 Kp5 (ninS (ne_exa fp2_4 fp2_0 (by decide)) nin0)
  have f5_3 : Fld Z T5.heap b2_b2 "java/io/ByteArrayOutputStream" "buf" "[B" (.ref b2_b3_b1_b2) := (fp2_6).keep Kp5 (ninS (ne_exa fp2_4 fp2_0 (by decide)) nin0)
  have f5_4 : Fld Z T5.heap b2_b2 "java/io/ByteArrayOutputStream" "count" "I" (.int (0 : Int32)) := (fp2_7).keep Kp5 (ninS (ne_exa fp2_4 fp2_0 (by decide)) nin0)
  have f5_5 : Exa Z T5.heap b2_b3_b1_b2 "[B" := (fp2_8).keep Kp5
  have f5_6 : Arv Z T5.heap b2_b3_b1_b2 k2_k3_k1_k2 .byte (32 : Int32) [] (.int (0 : Int32)) := (fp2_9).keep Kp5 (ninS (ne_exa fp2_8 fp2_0 (by decide)) nin0)
  have O5 := O2.keep Kp5 (allS g_b1 all0)
  obtain ⟨cq6, kq6, q6a, q6b, q6c⟩ := isOf hZ rfl fp5_0
  obtain ⟨_, _, ⟨T6, L6, k6, n6⟩, -, X6, ⟨Lc6, hQ6, l6, y6, z6⟩, st6⟩ := X5.virtualBack hx (y := (⟨"com/example/tillwire/tillwire/HttpFraming$BodyReader", "done", "()Z"⟩ : MethodName)) (z := (⟨"com/example/tillwire/tillwire/HttpFraming$BodyReader", "done", "()Z"⟩ : MethodName)) hown (mvT hZ (hw _ (List.mem_of_getElem? (i := 78) rfl))) (mvT hZ (hw _ (List.mem_of_getElem? (i := 79) rfl))) (notFace_of_selects (args := #[]) (mvT hZ (hw _ (List.mem_of_getElem? (i := 81) rfl)))) (mvT hZ (hw _ (List.mem_of_getElem? (i := 81) rfl))) (mvT hZ (hw _ (List.mem_of_getElem? (i := 80) rfl))) (by decide) (backOf (W := 0) (rm_dnDONE l Z a0 hw [] W b1 T5.heap n0 O5 fp5_3) hZ (hw _ (List.mem_of_getElem? (i := 82) rfl)) (hw _ (List.mem_of_getElem? (i := 4) rfl)) (by decide) (by decide)) q6a q6c (g := (mkF m 130 #[.val (.int p1), .val (.int p2), .val (.long q3), .second, .val (.long q4), .second, .val (.int (p2 &&& (2147483647 : Int32))), .val (.int (1 : Int32)), .val (.long q3), .second, .val (.long (0 : Int64)), .second, .val (.int (1 : Int32)), .val (.int (1 : Int32)), .val (.ref b1), .val (.int (1 : Int32)), .val (.int (1 : Int32)), .unset, .unset] [(.ref b1)])) rfl (by rw [hml]; rfl) (Steps.refl _) (argsL := []) (rest := []) (lenOf pd_7 rfl) rfl (by show 2 * 0 + _ ≤ _; exact Nat.le_of_eq rfl) (hb hby at_130) (fun _ _ => ⟨rfl, rfl, (by decide : 6 + 0 ≤ _), (by decide : 67 + 0 ≤ _)⟩)
  dsimp only [Pt.U, Pt.locs, Pt.cells, Pt.slots] at X6 l6 y6 z6 st6 hQ6
  subst l6 y6 z6
  obtain ⟨rfl, N6q, e6⟩ := hQ6
  have N6 := Fr.app N5 N6q
  obtain ⟨cq7, kq7, q7a, q7b, q7c⟩ := isOf hZ e6 fp5_0
  obtain ⟨_, _, ⟨T7, L7, k7, n7⟩, -, X7, ⟨Lc7, hQ7, l7, y7, z7⟩, st7⟩ := X6.virtualBack hx (y := (⟨"com/example/tillwire/tillwire/HttpFraming$BodyReader", "end", "()V"⟩ : MethodName)) (z := (⟨"com/example/tillwire/tillwire/HttpFraming$BodyReader", "end", "()V"⟩ : MethodName)) hown (mvT hZ (hw _ (List.mem_of_getElem? (i := 90) rfl))) (mvT hZ (hw _ (List.mem_of_getElem? (i := 91) rfl))) (notFace_of_selects (args := #[]) (mvT hZ (hw _ (List.mem_of_getElem? (i := 93) rfl)))) (mvT hZ (hw _ (List.mem_of_getElem? (i := 93) rfl))) (mvT hZ (hw _ (List.mem_of_getElem? (i := 92) rfl))) (by decide) (backOf (W := 0) (rm_enDONE l Z a0 hw [] W b1 b2_b2 (1 : Int32) T5.heap n0 O5 g_b1 fp5_0 fp5_1 fp5_2 fp5_3) hZ (hw _ (List.mem_of_getElem? (i := 94) rfl)) (hw _ (List.mem_of_getElem? (i := 4) rfl)) (by decide) (by decide)) q7a q7c (g := (mkF m 137 #[.val (.int p1), .val (.int p2), .val (.long q3), .second, .val (.long q4), .second, .val (.int (p2 &&& (2147483647 : Int32))), .val (.int (1 : Int32)), .val (.long q3), .second, .val (.long (0 : Int64)), .second, .val (.int (1 : Int32)), .val (.int (1 : Int32)), .val (.ref b1), .val (.int (1 : Int32)), .val (.int (1 : Int32)), .val (.int (1 : Int32)), .unset] [(.ref b1)])) rfl (by rw [hml]; rfl) (Steps.refl _) (argsL := []) (rest := []) (lenOf pd_0 rfl) rfl (by show 2 * 0 + _ ≤ _; exact Nat.le_of_eq rfl) (hb hby at_137) (fun _ _ => ⟨rfl, e6, (by decide : 6 + 0 ≤ _), (by decide : 67 + 0 ≤ _)⟩)
  dsimp only [Pt.U, Pt.locs, Pt.cells, Pt.slots] at X7 l7 y7 z7 st7 hQ7
  subst l7 y7 z7
  obtain ⟨N7q, hP7⟩ := hQ7
  have N7 := Fr.app N6 N7q
  obtain ⟨rfl, Kp7, fp7_0, fp7_1, fp7_2, fp7_3⟩ := hP7
  have f7_0 : Exa Z T7.heap b1 "com/example/tillwire/tillwire/HttpFraming$BodyReader" := (fp5_0).keep Kp7
  have f7_1 : Exa Z T7.heap b2_b2 "java/io/ByteArrayOutputStream" := (f5_1).keep Kp7
  have f7_2 : Unt T7.heap b2_b2 := own_untk f5_2 Kp7 (ninS (ne_exa f5_1 fp5_0 (by decide)) nin0)
  have f7_3 : Fld Z T7.heap b2_b2 "java/io/ByteArrayOutputStream" "buf" "[B" (.ref b2_b3_b1_b2) := (f5_3).keep Kp7 (ninS (ne_exa f5_1 fp5_0 (by decide)) nin0)
  have f7_4 : Fld Z T7.heap b2_b2 "java/io/ByteArrayOutputStream" "count" "I" (.int (0 : Int32)) := (f5_4).keep Kp7 (ninS (ne_exa f5_1 fp5_0 (by decide)) nin0)
  have f7_5 : Exa Z T7.heap b2_b3_b1_b2 "[B" := (f5_5).keep Kp7
  have f7_6 : Arv Z T7.heap b2_b3_b1_b2 k2_k3_k1_k2 .byte (32 : Int32) [] (.int (0 : Int32)) := (f5_6).keep Kp7 (ninS (ne_exa f5_5 fp5_0 (by decide)) nin0)
  have O7 := O5.keep Kp7 (allS g_b1 all0)
  obtain ⟨cq8, kq8, q8a, q8b, q8c⟩ := isOf hZ rfl fp7_0
  obtain ⟨_, _, ⟨T8, L8, k8, n8⟩, -, X8, ⟨Lc8, hQ8, l8, y8, z8⟩, st8⟩ := X7.virtualBack hx (y := (⟨"com/example/tillwire/tillwire/HttpFraming$BodyReader", "done", "()Z"⟩ : MethodName)) (z := (⟨"com/example/tillwire/tillwire/HttpFraming$BodyReader", "done", "()Z"⟩ : MethodName)) hown (mvT hZ (hw _ (List.mem_of_getElem? (i := 78) rfl))) (mvT hZ (hw _ (List.mem_of_getElem? (i := 79) rfl))) (notFace_of_selects (args := #[]) (mvT hZ (hw _ (List.mem_of_getElem? (i := 81) rfl)))) (mvT hZ (hw _ (List.mem_of_getElem? (i := 81) rfl))) (mvT hZ (hw _ (List.mem_of_getElem? (i := 80) rfl))) (by decide) (backOf (W := 0) (rm_dnDONE l Z a0 hw [] W b1 T7.heap n0 O7 fp7_3) hZ (hw _ (List.mem_of_getElem? (i := 82) rfl)) (hw _ (List.mem_of_getElem? (i := 4) rfl)) (by decide) (by decide)) q8a q8c (g := (mkF m 142 #[.val (.int p1), .val (.int p2), .val (.long q3), .second, .val (.long q4), .second, .val (.int (p2 &&& (2147483647 : Int32))), .val (.int (1 : Int32)), .val (.long q3), .second, .val (.long (0 : Int64)), .second, .val (.int (1 : Int32)), .val (.int (1 : Int32)), .val (.ref b1), .val (.int (1 : Int32)), .val (.int (1 : Int32)), .val (.int (1 : Int32)), .unset] [(.ref b1)])) rfl (by rw [hml]; rfl) (Steps.refl _) (argsL := []) (rest := []) (lenOf pd_7 rfl) rfl (by show 2 * 0 + _ ≤ _; exact Nat.le_of_eq rfl) (hb hby at_142) (fun _ _ => ⟨rfl, rfl, (by decide : 6 + 0 ≤ _), (by decide : 67 + 0 ≤ _)⟩)
  dsimp only [Pt.U, Pt.locs, Pt.cells, Pt.slots] at X8 l8 y8 z8 st8 hQ8
  subst l8 y8 z8
  obtain ⟨rfl, N8q, e8⟩ := hQ8
  have N8 := Fr.app N7 N8q
  obtain ⟨cq9, kq9, q9a, q9b, q9c⟩ := isOf hZ e8 fp7_0
  obtain ⟨_, _, ⟨T9, L9, k9, n9⟩, -, X9, ⟨Lc9, hQ9, l9, y9, z9⟩, st9⟩ := X8.virtualBack hx (y := (⟨"com/example/tillwire/tillwire/HttpFraming$BodyReader", "whole", "()Z"⟩ : MethodName)) (z := (⟨"com/example/tillwire/tillwire/HttpFraming$BodyReader", "whole", "()Z"⟩ : MethodName)) hown (mvT hZ (hw _ (List.mem_of_getElem? (i := 85) rfl))) (mvT hZ (hw _ (List.mem_of_getElem? (i := 86) rfl))) (notFace_of_selects (args := #[]) (mvT hZ (hw _ (List.mem_of_getElem? (i := 88) rfl)))) (mvT hZ (hw _ (List.mem_of_getElem? (i := 88) rfl))) (mvT hZ (hw _ (List.mem_of_getElem? (i := 87) rfl))) (by decide) (backOf (W := 0) (rm_wh1 l Z a0 hw [] W b1 T7.heap n0 O7 fp7_2) hZ (hw _ (List.mem_of_getElem? (i := 89) rfl)) (hw _ (List.mem_of_getElem? (i := 4) rfl)) (by decide) (by decide)) q9a q9c (g := (mkF m 173 #[.val (.int p1), .val (.int p2), .val (.long q3), .second, .val (.long q4), .second, .val (.int (p2 &&& (2147483647 : Int32))), .val (.int (1 : Int32)), .val (.long q3), .second, .val (.long (0 : Int64)), .second, .val (.int (1 : Int32)), .val (.int (1 : Int32)), .val (.ref b1), .val (.int (1 : Int32)), .val (.int (1 : Int32)), .val (.int (1 : Int32)), .val (.int (1 : Int32))] [(.ref b1)])) rfl (by rw [hml]; rfl) (Steps.refl _) (argsL := []) (rest := []) (lenOf pd_7 rfl) rfl (by show 2 * 0 + _ ≤ _; exact Nat.le_of_eq rfl) (hb hby at_173) (fun _ _ => ⟨rfl, e8, (by decide : 6 + 0 ≤ _), (by decide : 67 + 0 ≤ _)⟩)
  dsimp only [Pt.U, Pt.locs, Pt.cells, Pt.slots] at X9 l9 y9 z9 st9 hQ9
  subst l9 y9 z9
  obtain ⟨rfl, N9q, e9⟩ := hQ9
  have N9 := Fr.app N8 N9q
  obtain ⟨cq10, kq10, q10a, q10b, q10c⟩ := isOf hZ e9 fp7_0
  obtain ⟨_, _, ⟨T10, L10, k10, n10⟩, -, X10, ⟨Lc10, hQ10, l10, y10, z10⟩, st10⟩ := X9.virtualBack hx (y := (⟨"com/example/tillwire/tillwire/HttpFraming$BodyReader", "bytes", "()[B"⟩ : MethodName)) (z := (⟨"com/example/tillwire/tillwire/HttpFraming$BodyReader", "bytes", "()[B"⟩ : MethodName)) hown (mvT hZ (hw _ (List.mem_of_getElem? (i := 95) rfl))) (mvT hZ (hw _ (List.mem_of_getElem? (i := 96) rfl))) (notFace_of_selects (args := #[]) (mvT hZ (hw _ (List.mem_of_getElem? (i := 98) rfl)))) (mvT hZ (hw _ (List.mem_of_getElem? (i := 98) rfl))) (mvT hZ (hw _ (List.mem_of_getElem? (i := 97) rfl))) (by decide) (backOf (W := 0) (rm_by l Z a0 hw [] W b1 b2_b2 b2_b3_b1_b2 k2_k3_k1_k2 T7.heap n0 O7 g_b1 fp7_1 g_b2_b2 f7_1 f7_2 f7_3 f7_4 g_b2_b3_b1_b2 f7_6) hZ (hw _ (List.mem_of_getElem? (i := 99) rfl)) (hw _ (List.mem_of_getElem? (i := 4) rfl)) (by decide) (by decide)) q10a q10c (g := (mkF m 183 #[.val (.int p1), .val (.int p2), .val (.long q3), .second, .val (.long q4), .second, .val (.int (p2 &&& (2147483647 : Int32))), .val (.int (1 : Int32)), .val (.long q3), .second, .val (.long (0 : Int64)), .second, .val (.int (1 : Int32)), .val (.int (1 : Int32)), .val (.ref b1), .val (.int (1 : Int32)), .val (.int (1 : Int32)), .val (.int (1 : Int32)), .val (.int (1 : Int32))] [(.ref b1)])) rfl (by rw [hml]; rfl) (Steps.refl _) (argsL := []) (rest := []) (lenOf pd_5 rfl) rfl (by show 2 * 0 + _ ≤ _; exact Nat.le_of_eq rfl) (hb hby at_183) (fun _ _ => ⟨rfl, e9, (by decide : 6 + 1 ≤ _), (by decide : 67 + 0 ≤ _)⟩)
  dsimp only [Pt.U, Pt.locs, Pt.cells, Pt.slots] at X10 l10 y10 z10 st10 hQ10
  subst l10 y10 z10
  obtain ⟨N10q, hP10⟩ := hQ10
  have N10 := Fr.app N9 N10q
  obtain ⟨b10, k10, rfl, g_b10, fv10⟩ := hP10
  obtain ⟨cl11, Ar11, qk11, Sz11, Nz11, Hs11, Gs11⟩ := id fv10
  obtain ⟨fs, hr, hrun, hended, hW, hsame⟩ := X10.leave (v := some (.int (1 : Int32))) (fun h => by rw [Bd.returns] at h; cases h)
  refine ⟨_, _, pre0 _ ?_, hrun, hended, _, _, rfl, ?_, ⟨_, rfl⟩, hW, hsame.mono (by decide) (by decide)⟩
  · show Steps p.tables e below (s₁.setTop (mkF m 0 #[.val (.int p1), .val (.int p2), .val (.long q3), .second, .val (.long q4), .second, .unset, .unset, .unset, .unset, .unset, .unset, .unset, .unset, .unset, .unset, .unset, .unset, .unset] [])) _
    refine XS.iloadN X0.here hx rfl (hb hby at_0) rfl ?_
    show Steps p.tables e below (s₁.setTop (mkF m 1 #[.val (.int p1), .val (.int p2), .val (.long q3), .second, .val (.long q4), .second, .unset, .unset, .unset, .unset, .unset, .unset, .unset, .unset, .unset, .unset, .unset, .unset, .unset] [(.int p2)])) _
    refine X0.ldcInt hx hown (mvT hZ (hw _ (List.mem_of_getElem? (i := 0) rfl))) (g := (mkF m 1 #[.val (.int p1), .val (.int p2), .val (.long q3), .second, .val (.long q4), .second, .unset, .unset, .unset, .unset, .unset, .unset, .unset, .unset, .unset, .unset, .unset, .unset, .unset] [(.int p2)])) rfl (hb hby at_1) _ ?_
    show Steps p.tables e below (s₁.setTop (mkF m 3 #[.val (.int p1), .val (.int p2), .val (.long q3), .second, .val (.long q4), .second, .unset, .unset, .unset, .unset, .unset, .unset, .unset, .unset, .unset, .unset, .unset, .unset, .unset] [(.int (2147483647 : Int32)), (.int p2)])) _
    refine XS.iand X0.here hx rfl (hb hby at_3) rfl ?_
    show Steps p.tables e below (s₁.setTop (mkF m 4 #[.val (.int p1), .val (.int p2), .val (.long q3), .second, .val (.long q4), .second, .unset, .unset, .unset, .unset, .unset, .unset, .unset, .unset, .unset, .unset, .unset, .unset, .unset] [(.int (p2 &&& (2147483647 : Int32)))])) _
    refine XS.istore X0.here hx rfl (hb hby at_4) rfl (l' := #[.val (.int p1), .val (.int p2), .val (.long q3), .second, .val (.long q4), .second, .val (.int (p2 &&& (2147483647 : Int32))), .unset, .unset, .unset, .unset, .unset, .unset, .unset, .unset, .unset, .unset, .unset, .unset]) rfl ?_
    show Steps p.tables e below (s₁.setTop (mkF m 6 #[.val (.int p1), .val (.int p2), .val (.long q3), .second, .val (.long q4), .second, .val (.int (p2 &&& (2147483647 : Int32))), .unset, .unset, .unset, .unset, .unset, .unset, .unset, .unset, .unset, .unset, .unset, .unset] [])) _
    refine XS.iloadN X0.here hx rfl (hb hby at_6) rfl ?_
    show Steps p.tables e below (s₁.setTop (mkF m 7 #[.val (.int p1), .val (.int p2), .val (.long q3), .second, .val (.long q4), .second, .val (.int (p2 &&& (2147483647 : Int32))), .unset, .unset, .unset, .unset, .unset, .unset, .unset, .unset, .unset, .unset, .unset, .unset] [(.int p1)])) _
    refine X0.ldcInt hx hown (mvT hZ (hw _ (List.mem_of_getElem? (i := 0) rfl))) (g := (mkF m 7 #[.val (.int p1), .val (.int p2), .val (.long q3), .second, .val (.long q4), .second, .val (.int (p2 &&& (2147483647 : Int32))), .unset, .unset, .unset, .unset, .unset, .unset, .unset, .unset, .unset, .unset, .unset, .unset] [(.int p1)])) rfl (hb hby at_7) _ ?_
    show Steps p.tables e below (s₁.setTop (mkF m 9 #[.val (.int p1), .val (.int p2), .val (.long q3), .second, .val (.long q4), .second, .val (.int (p2 &&& (2147483647 : Int32))), .unset, .unset, .unset, .unset, .unset, .unset, .unset, .unset, .unset, .unset, .unset, .unset] [(.int (2147483647 : Int32)), (.int p1)])) _
    refine XS.iand X0.here hx rfl (hb hby at_9) rfl ?_
    show Steps p.tables e below (s₁.setTop (mkF m 10 #[.val (.int p1), .val (.int p2), .val (.long q3), .second, .val (.long q4), .second, .val (.int (p2 &&& (2147483647 : Int32))), .unset, .unset, .unset, .unset, .unset, .unset, .unset, .unset, .unset, .unset, .unset, .unset] [(.int (p1 &&& (2147483647 : Int32)))])) _
    refine XS.iconst X0.here hx rfl (hb hby at_10) ?_
    show Steps p.tables e below (s₁.setTop (mkF m 11 #[.val (.int p1), .val (.int p2), .val (.long q3), .second, .val (.long q4), .second, .val (.int (p2 &&& (2147483647 : Int32))), .unset, .unset, .unset, .unset, .unset, .unset, .unset, .unset, .unset, .unset, .unset, .unset] [(.int (3 : Int32)), (.int (p1 &&& (2147483647 : Int32)))])) _
    refine iremM X0 hx rfl (hb hby at_11) rfl (by decide) ?_
    show Steps p.tables e below (s₁.setTop (mkF m 12 #[.val (.int p1), .val (.int p2), .val (.long q3), .second, .val (.long q4), .second, .val (.int (p2 &&& (2147483647 : Int32))), .unset, .unset, .unset, .unset, .unset, .unset, .unset, .unset, .unset, .unset, .unset, .unset] [(.int ((p1 &&& (2147483647 : Int32)) % (3 : Int32)))])) _
    rw [hk]
    show Steps p.tables e below (s₁.setTop (mkF m 12 #[.val (.int p1), .val (.int p2), .val (.long q3), .second, .val (.long q4), .second, .val (.int (p2 &&& (2147483647 : Int32))), .unset, .unset, .unset, .unset, .unset, .unset, .unset, .unset, .unset, .unset, .unset, .unset] [(.int (1 : Int32))])) _
    refine XS.istore X0.here hx rfl (hb hby at_12) rfl (l' := #[.val (.int p1), .val (.int p2), .val (.long q3), .second, .val (.long q4), .second, .val (.int (p2 &&& (2147483647 : Int32))), .val (.int (1 : Int32)), .unset, .unset, .unset, .unset, .unset, .unset, .unset, .unset, .unset, .unset, .unset]) rfl ?_
    show Steps p.tables e below (s₁.setTop (mkF m 14 #[.val (.int p1), .val (.int p2), .val (.long q3), .second, .val (.long q4), .second, .val (.int (p2 &&& (2147483647 : Int32))), .val (.int (1 : Int32)), .unset, .unset, .unset, .unset, .unset, .unset, .unset, .unset, .unset, .unset, .unset] [])) _
    refine XS.lloadN X0.here hx rfl (hb hby at_14) rfl ?_
    show Steps p.tables e below (s₁.setTop (mkF m 15 #[.val (.int p1), .val (.int p2), .val (.long q3), .second, .val (.long q4), .second, .val (.int (p2 &&& (2147483647 : Int32))), .val (.int (1 : Int32)), .unset, .unset, .unset, .unset, .unset, .unset, .unset, .unset, .unset, .unset, .unset] [(.long q3)])) _
    refine XS.lstore X0.here hx rfl (hb hby at_15) rfl (l' := #[.val (.int p1), .val (.int p2), .val (.long q3), .second, .val (.long q4), .second, .val (.int (p2 &&& (2147483647 : Int32))), .val (.int (1 : Int32)), .val (.long q3), .second, .unset, .unset, .unset, .unset, .unset, .unset, .unset, .unset, .unset]) rfl ?_
    show Steps p.tables e below (s₁.setTop (mkF m 17 #[.val (.int p1), .val (.int p2), .val (.long q3), .second, .val (.long q4), .second, .val (.int (p2 &&& (2147483647 : Int32))), .val (.int (1 : Int32)), .val (.long q3), .second, .unset, .unset, .unset, .unset, .unset, .unset, .unset, .unset, .unset] [])) _
    refine XS.iload X0.here hx rfl (hb hby at_17) rfl ?_
    show Steps p.tables e below (s₁.setTop (mkF m 19 #[.val (.int p1), .val (.int p2), .val (.long q3), .second, .val (.long q4), .second, .val (.int (p2 &&& (2147483647 : Int32))), .val (.int (1 : Int32)), .val (.long q3), .second, .unset, .unset, .unset, .unset, .unset, .unset, .unset, .unset, .unset] [(.int (1 : Int32))])) _
    refine XS.ifYes X0.here hx rfl (pc0 := 19) (pc' := 36) rfl (hb hby at_19) rfl ((if0 _ _).trans (feq ((by decide) : ¬ ((1 : Int32) = (0 : Int32)))).2) (by decide) (by decide) ?_
    show Steps p.tables e below (s₁.setTop (mkF m 36 #[.val (.int p1), .val (.int p2), .val (.long q3), .second, .val (.long q4), .second, .val (.int (p2 &&& (2147483647 : Int32))), .val (.int (1 : Int32)), .val (.long q3), .second, .unset, .unset, .unset, .unset, .unset, .unset, .unset, .unset, .unset] [])) _
    refine XS.iload X0.here hx rfl (hb hby at_36) rfl ?_
    show Steps p.tables e below (s₁.setTop (mkF m 38 #[.val (.int p1), .val (.int p2), .val (.long q3), .second, .val (.long q4), .second, .val (.int (p2 &&& (2147483647 : Int32))), .val (.int (1 : Int32)), .val (.long q3), .second, .unset, .unset, .unset, .unset, .unset, .unset, .unset, .unset, .unset] [(.int (1 : Int32))])) _
    refine XS.iconst X0.here hx rfl (hb hby at_38) ?_
    show Steps p.tables e below (s₁.setTop (mkF m 39 #[.val (.int p1), .val (.int p2), .val (.long q3), .second, .val (.long q4), .second, .val (.int (p2 &&& (2147483647 : Int32))), .val (.int (1 : Int32)), .val (.long q3), .second, .unset, .unset, .unset, .unset, .unset, .unset, .unset, .unset, .unset] [(.int (1 : Int32)), (.int (1 : Int32))])) _
    refine XS.icmpNo X0.here hx rfl (hb hby at_39) rfl (teq ((by decide) : (1 : Int32) = (1 : Int32))).2 ?_
    show Steps p.tables e below (s₁.setTop (mkF m 42 #[.val (.int p1), .val (.int p2), .val (.long q3), .second, .val (.long q4), .second, .val (.int (p2 &&& (2147483647 : Int32))), .val (.int (1 : Int32)), .val (.long q3), .second, .unset, .unset, .unset, .unset, .unset, .unset, .unset, .unset, .unset] [])) _
    refine XS.lconst X0.here hx rfl (hb hby at_42) ?_
    show Steps p.tables e below (s₁.setTop (mkF m 43 #[.val (.int p1), .val (.int p2), .val (.long q3), .second, .val (.long q4), .second, .val (.int (p2 &&& (2147483647 : Int32))), .val (.int (1 : Int32)), .val (.long q3), .second, .unset, .unset, .unset, .unset, .unset, .unset, .unset, .unset, .unset] [(.long (0 : Int64))])) _
    refine XS.lstore X0.here hx rfl (hb hby at_43) rfl (l' := #[.val (.int p1), .val (.int p2), .val (.long q3), .second, .val (.long q4), .second, .val (.int (p2 &&& (2147483647 : Int32))), .val (.int (1 : Int32)), .val (.long q3), .second, .val (.long (0 : Int64)), .second, .unset, .unset, .unset, .unset, .unset, .unset, .unset]) rfl ?_
    show Steps p.tables e below (s₁.setTop (mkF m 45 #[.val (.int p1), .val (.int p2), .val (.long q3), .second, .val (.long q4), .second, .val (.int (p2 &&& (2147483647 : Int32))), .val (.int (1 : Int32)), .val (.long q3), .second, .val (.long (0 : Int64)), .second, .unset, .unset, .unset, .unset, .unset, .unset, .unset] [])) _
    refine XS.lload X0.here hx rfl (hb hby at_45) rfl ?_
    show Steps p.tables e below (s₁.setTop (mkF m 47 #[.val (.int p1), .val (.int p2), .val (.long q3), .second, .val (.long q4), .second, .val (.int (p2 &&& (2147483647 : Int32))), .val (.int (1 : Int32)), .val (.long q3), .second, .val (.long (0 : Int64)), .second, .unset, .unset, .unset, .unset, .unset, .unset, .unset] [(.long q3)])) _
    refine XS.lconst X0.here hx rfl (hb hby at_47) ?_
    show Steps p.tables e below (s₁.setTop (mkF m 48 #[.val (.int p1), .val (.int p2), .val (.long q3), .second, .val (.long q4), .second, .val (.int (p2 &&& (2147483647 : Int32))), .val (.int (1 : Int32)), .val (.long q3), .second, .val (.long (0 : Int64)), .second, .unset, .unset, .unset, .unset, .unset, .unset, .unset] [(.long (0 : Int64)), (.long q3)])) _
    refine XS.lcmp X0.here hx rfl (hb hby at_48) rfl ?_
    show Steps p.tables e below (s₁.setTop (mkF m 49 #[.val (.int p1), .val (.int p2), .val (.long q3), .second, .val (.long q4), .second, .val (.int (p2 &&& (2147483647 : Int32))), .val (.int (1 : Int32)), .val (.long q3), .second, .val (.long (0 : Int64)), .second, .unset, .unset, .unset, .unset, .unset, .unset, .unset] [(.int (lcmpW q3 (0 : Int64)))])) _
    refine XS.ifNo X0.here hx rfl (hb hby at_49) rfl ((if0 _ _).trans (flt (xs : ¬ ((lcmpW q3 (0 : Int64)) < (0 : Int32)))).1) ?_
    show Steps p.tables e below (s₁.setTop (mkF m 52 #[.val (.int p1), .val (.int p2), .val (.long q3), .second, .val (.long q4), .second, .val (.int (p2 &&& (2147483647 : Int32))), .val (.int (1 : Int32)), .val (.long q3), .second, .val (.long (0 : Int64)), .second, .unset, .unset, .unset, .unset, .unset, .unset, .unset] [])) _
    refine XS.iconst X0.here hx rfl (hb hby at_52) ?_
    show Steps p.tables e below (s₁.setTop (mkF m 53 #[.val (.int p1), .val (.int p2), .val (.long q3), .second, .val (.long q4), .second, .val (.int (p2 &&& (2147483647 : Int32))), .val (.int (1 : Int32)), .val (.long q3), .second, .val (.long (0 : Int64)), .second, .unset, .unset, .unset, .unset, .unset, .unset, .unset] [(.int (1 : Int32))])) _
    refine XS.goto X0.here hx rfl (pc0 := 53) (pc' := 57) rfl (hb hby at_53) (by decide) (by decide) ?_
    show Steps p.tables e below (s₁.setTop (mkF m 57 #[.val (.int p1), .val (.int p2), .val (.long q3), .second, .val (.long q4), .second, .val (.int (p2 &&& (2147483647 : Int32))), .val (.int (1 : Int32)), .val (.long q3), .second, .val (.long (0 : Int64)), .second, .unset, .unset, .unset, .unset, .unset, .unset, .unset] [(.int (1 : Int32))])) _
    refine XS.istore X0.here hx rfl (hb hby at_57) rfl (l' := #[.val (.int p1), .val (.int p2), .val (.long q3), .second, .val (.long q4), .second, .val (.int (p2 &&& (2147483647 : Int32))), .val (.int (1 : Int32)), .val (.long q3), .second, .val (.long (0 : Int64)), .second, .val (.int (1 : Int32)), .unset, .unset, .unset, .unset, .unset, .unset]) rfl ?_
    show Steps p.tables e below (s₁.setTop (mkF m 59 #[.val (.int p1), .val (.int p2), .val (.long q3), .second, .val (.long q4), .second, .val (.int (p2 &&& (2147483647 : Int32))), .val (.int (1 : Int32)), .val (.long q3), .second, .val (.long (0 : Int64)), .second, .val (.int (1 : Int32)), .unset, .unset, .unset, .unset, .unset, .unset] [])) _
    refine XS.iconst X0.here hx rfl (hb hby at_59) ?_
    show Steps p.tables e below (s₁.setTop (mkF m 60 #[.val (.int p1), .val (.int p2), .val (.long q3), .second, .val (.long q4), .second, .val (.int (p2 &&& (2147483647 : Int32))), .val (.int (1 : Int32)), .val (.long q3), .second, .val (.long (0 : Int64)), .second, .val (.int (1 : Int32)), .unset, .unset, .unset, .unset, .unset, .unset] [(.int (1 : Int32))])) _
    refine XS.istore X0.here hx rfl (hb hby at_60) rfl (l' := #[.val (.int p1), .val (.int p2), .val (.long q3), .second, .val (.long q4), .second, .val (.int (p2 &&& (2147483647 : Int32))), .val (.int (1 : Int32)), .val (.long q3), .second, .val (.long (0 : Int64)), .second, .val (.int (1 : Int32)), .val (.int (1 : Int32)), .unset, .unset, .unset, .unset, .unset]) rfl ?_
    show Steps p.tables e below (s₁.setTop (mkF m 62 #[.val (.int p1), .val (.int p2), .val (.long q3), .second, .val (.long q4), .second, .val (.int (p2 &&& (2147483647 : Int32))), .val (.int (1 : Int32)), .val (.long q3), .second, .val (.long (0 : Int64)), .second, .val (.int (1 : Int32)), .val (.int (1 : Int32)), .unset, .unset, .unset, .unset, .unset] [])) _
    refine XS.goto X0.here hx rfl (pc0 := 62) (pc' := 94) rfl (hb hby at_62) (by decide) (by decide) ?_
    show Steps p.tables e below (s₁.setTop (mkF m 94 #[.val (.int p1), .val (.int p2), .val (.long q3), .second, .val (.long q4), .second, .val (.int (p2 &&& (2147483647 : Int32))), .val (.int (1 : Int32)), .val (.long q3), .second, .val (.long (0 : Int64)), .second, .val (.int (1 : Int32)), .val (.int (1 : Int32)), .unset, .unset, .unset, .unset, .unset] [])) _
    refine st1 _ ?_
    show Steps p.tables e below (T1.setTop (mkF m 97 #[.val (.int p1), .val (.int p2), .val (.long q3), .second, .val (.long q4), .second, .val (.int (p2 &&& (2147483647 : Int32))), .val (.int (1 : Int32)), .val (.long q3), .second, .val (.long (0 : Int64)), .second, .val (.int (1 : Int32)), .val (.int (1 : Int32)), .unset, .unset, .unset, .unset, .unset] [(.ref b1)])) _
    refine XS.dup X1.here hx rfl (hb hby at_97) rfl rfl ?_
    show Steps p.tables e below (T1.setTop (mkF m 98 #[.val (.int p1), .val (.int p2), .val (.long q3), .second, .val (.long q4), .second, .val (.int (p2 &&& (2147483647 : Int32))), .val (.int (1 : Int32)), .val (.long q3), .second, .val (.long (0 : Int64)), .second, .val (.int (1 : Int32)), .val (.int (1 : Int32)), .unset, .unset, .unset, .unset, .unset] [(.ref b1), (.ref b1)])) _
    refine XS.lload X1.here hx rfl (hb hby at_98) rfl ?_
    show Steps p.tables e below (T1.setTop (mkF m 100 #[.val (.int p1), .val (.int p2), .val (.long q3), .second, .val (.long q4), .second, .val (.int (p2 &&& (2147483647 : Int32))), .val (.int (1 : Int32)), .val (.long q3), .second, .val (.long (0 : Int64)), .second, .val (.int (1 : Int32)), .val (.int (1 : Int32)), .unset, .unset, .unset, .unset, .unset] [(.long (0 : Int64)), (.ref b1), (.ref b1)])) _
    refine XS.iload X1.here hx rfl (hb hby at_100) rfl ?_
    show Steps p.tables e below (T1.setTop (mkF m 102 #[.val (.int p1), .val (.int p2), .val (.long q3), .second, .val (.long q4), .second, .val (.int (p2 &&& (2147483647 : Int32))), .val (.int (1 : Int32)), .val (.long q3), .second, .val (.long (0 : Int64)), .second, .val (.int (1 : Int32)), .val (.int (1 : Int32)), .unset, .unset, .unset, .unset, .unset] [(.int (p2 &&& (2147483647 : Int32))), (.long (0 : Int64)), (.ref b1), (.ref b1)])) _
    refine XS.lload X1.here hx rfl (hb hby at_102) rfl ?_
    show Steps p.tables e below (T1.setTop (mkF m 104 #[.val (.int p1), .val (.int p2), .val (.long q3), .second, .val (.long q4), .second, .val (.int (p2 &&& (2147483647 : Int32))), .val (.int (1 : Int32)), .val (.long q3), .second, .val (.long (0 : Int64)), .second, .val (.int (1 : Int32)), .val (.int (1 : Int32)), .unset, .unset, .unset, .unset, .unset] [(.long q3), (.int (p2 &&& (2147483647 : Int32))), (.long (0 : Int64)), (.ref b1), (.ref b1)])) _
    refine st2.trans ?_
    show Steps p.tables e below (T2.setTop (mkF m 107 #[.val (.int p1), .val (.int p2), .val (.long q3), .second, .val (.long q4), .second, .val (.int (p2 &&& (2147483647 : Int32))), .val (.int (1 : Int32)), .val (.long q3), .second, .val (.long (0 : Int64)), .second, .val (.int (1 : Int32)), .val (.int (1 : Int32)), .unset, .unset, .unset, .unset, .unset] [(.ref b1)])) _
    refine XS.astore X2.here hx rfl (hb hby at_107) rfl rfl (l' := #[.val (.int p1), .val (.int p2), .val (.long q3), .second, .val (.long q4), .second, .val (.int (p2 &&& (2147483647 : Int32))), .val (.int (1 : Int32)), .val (.long q3), .second, .val (.long (0 : Int64)), .second, .val (.int (1 : Int32)), .val (.int (1 : Int32)), .val (.ref b1), .unset, .unset, .unset, .unset]) rfl ?_
    show Steps p.tables e below (T2.setTop (mkF m 109 #[.val (.int p1), .val (.int p2), .val (.long q3), .second, .val (.long q4), .second, .val (.int (p2 &&& (2147483647 : Int32))), .val (.int (1 : Int32)), .val (.long q3), .second, .val (.long (0 : Int64)), .second, .val (.int (1 : Int32)), .val (.int (1 : Int32)), .val (.ref b1), .unset, .unset, .unset, .unset] [])) _
    refine XS.aload X2.here hx rfl (hb hby at_109) rfl rfl ?_
    show Steps p.tables e below (T2.setTop (mkF m 111 #[.val (.int p1), .val (.int p2), .val (.long q3), .second, .val (.long q4), .second, .val (.int (p2 &&& (2147483647 : Int32))), .val (.int (1 : Int32)), .val (.long q3), .second, .val (.long (0 : Int64)), .second, .val (.int (1 : Int32)), .val (.int (1 : Int32)), .val (.ref b1), .unset, .unset, .unset, .unset] [(.ref b1)])) _
    refine st3.trans ?_
    show Steps p.tables e below (T3.setTop (mkF m 114 #[.val (.int p1), .val (.int p2), .val (.long q3), .second, .val (.long q4), .second, .val (.int (p2 &&& (2147483647 : Int32))), .val (.int (1 : Int32)), .val (.long q3), .second, .val (.long (0 : Int64)), .second, .val (.int (1 : Int32)), .val (.int (1 : Int32)), .val (.ref b1), .unset, .unset, .unset, .unset] [(.int (1 : Int32))])) _
    refine XS.istore X3.here hx rfl (hb hby at_114) rfl (l' := #[.val (.int p1), .val (.int p2), .val (.long q3), .second, .val (.long q4), .second, .val (.int (p2 &&& (2147483647 : Int32))), .val (.int (1 : Int32)), .val (.long q3), .second, .val (.long (0 : Int64)), .second, .val (.int (1 : Int32)), .val (.int (1 : Int32)), .val (.ref b1), .val (.int (1 : Int32)), .unset, .unset, .unset]) rfl ?_
    show Steps p.tables e below (T3.setTop (mkF m 116 #[.val (.int p1), .val (.int p2), .val (.long q3), .second, .val (.long q4), .second, .val (.int (p2 &&& (2147483647 : Int32))), .val (.int (1 : Int32)), .val (.long q3), .second, .val (.long (0 : Int64)), .second, .val (.int (1 : Int32)), .val (.int (1 : Int32)), .val (.ref b1), .val (.int (1 : Int32)), .unset, .unset, .unset] [])) _
    refine XS.aload X3.here hx rfl (hb hby at_116) rfl rfl ?_
    show Steps p.tables e below (T3.setTop (mkF m 118 #[.val (.int p1), .val (.int p2), .val (.long q3), .second, .val (.long q4), .second, .val (.int (p2 &&& (2147483647 : Int32))), .val (.int (1 : Int32)), .val (.long q3), .second, .val (.long (0 : Int64)), .second, .val (.int (1 : Int32)), .val (.int (1 : Int32)), .val (.ref b1), .val (.int (1 : Int32)), .unset, .unset, .unset] [(.ref b1)])) _
    refine st4.trans ?_
    show Steps p.tables e below (T4.setTop (mkF m 121 #[.val (.int p1), .val (.int p2), .val (.long q3), .second, .val (.long q4), .second, .val (.int (p2 &&& (2147483647 : Int32))), .val (.int (1 : Int32)), .val (.long q3), .second, .val (.long (0 : Int64)), .second, .val (.int (1 : Int32)), .val (.int (1 : Int32)), .val (.ref b1), .val (.int (1 : Int32)), .unset, .unset, .unset] [(.int (1 : Int32))])) _
    refine XS.istore X4.here hx rfl (hb hby at_121) rfl (l' := #[.val (.int p1), .val (.int p2), .val (.long q3), .second, .val (.long q4), .second, .val (.int (p2 &&& (2147483647 : Int32))), .val (.int (1 : Int32)), .val (.long q3), .second, .val (.long (0 : Int64)), .second, .val (.int (1 : Int32)), .val (.int (1 : Int32)), .val (.ref b1), .val (.int (1 : Int32)), .val (.int (1 : Int32)), .unset, .unset]) rfl ?_
    show Steps p.tables e below (T4.setTop (mkF m 123 #[.val (.int p1), .val (.int p2), .val (.long q3), .second, .val (.long q4), .second, .val (.int (p2 &&& (2147483647 : Int32))), .val (.int (1 : Int32)), .val (.long q3), .second, .val (.long (0 : Int64)), .second, .val (.int (1 : Int32)), .val (.int (1 : Int32)), .val (.ref b1), .val (.int (1 : Int32)), .val (.int (1 : Int32)), .unset, .unset] [])) _
    refine XS.aload X4.here hx rfl (hb hby at_123) rfl rfl ?_
    show Steps p.tables e below (T4.setTop (mkF m 125 #[.val (.int p1), .val (.int p2), .val (.long q3), .second, .val (.long q4), .second, .val (.int (p2 &&& (2147483647 : Int32))), .val (.int (1 : Int32)), .val (.long q3), .second, .val (.long (0 : Int64)), .second, .val (.int (1 : Int32)), .val (.int (1 : Int32)), .val (.ref b1), .val (.int (1 : Int32)), .val (.int (1 : Int32)), .unset, .unset] [(.ref b1)])) _
    refine st5.trans ?_
    show Steps p.tables e below (T5.setTop (mkF m 128 #[.val (.int p1), .val (.int p2), .val (.long q3), .second, .val (.long q4), .second, .val (.int (p2 &&& (2147483647 : Int32))), .val (.int (1 : Int32)), .val (.long q3), .second, .val (.long (0 : Int64)), .second, .val (.int (1 : Int32)), .val (.int (1 : Int32)), .val (.ref b1), .val (.int (1 : Int32)), .val (.int (1 : Int32)), .unset, .unset] [])) _
    refine XS.aload X5.here hx rfl (hb hby at_128) rfl rfl ?_
    show Steps p.tables e below (T5.setTop (mkF m 130 #[.val (.int p1), .val (.int p2), .val (.long q3), .second, .val (.long q4), .second, .val (.int (p2 &&& (2147483647 : Int32))), .val (.int (1 : Int32)), .val (.long q3), .second, .val (.long (0 : Int64)), .second, .val (.int (1 : Int32)), .val (.int (1 : Int32)), .val (.ref b1), .val (.int (1 : Int32)), .val (.int (1 : Int32)), .unset, .unset] [(.ref b1)])) _
    refine st6.trans ?_
    show Steps p.tables e below (T6.setTop (mkF m 133 #[.val (.int p1), .val (.int p2), .val (.long q3), .second, .val (.long q4), .second, .val (.int (p2 &&& (2147483647 : Int32))), .val (.int (1 : Int32)), .val (.long q3), .second, .val (.long (0 : Int64)), .second, .val (.int (1 : Int32)), .val (.int (1 : Int32)), .val (.ref b1), .val (.int (1 : Int32)), .val (.int (1 : Int32)), .unset, .unset] [(.int (1 : Int32))])) _
    refine XS.istore X6.here hx rfl (hb hby at_133) rfl (l' := #[.val (.int p1), .val (.int p2), .val (.long q3), .second, .val (.long q4), .second, .val (.int (p2 &&& (2147483647 : Int32))), .val (.int (1 : Int32)), .val (.long q3), .second, .val (.long (0 : Int64)), .second, .val (.int (1 : Int32)), .val (.int (1 : Int32)), .val (.ref b1), .val (.int (1 : Int32)), .val (.int (1 : Int32)), .val (.int (1 : Int32)), .unset]) rfl ?_
    show Steps p.tables e below (T6.setTop (mkF m 135 #[.val (.int p1), .val (.int p2), .val (.long q3), .second, .val (.long q4), .second, .val (.int (p2 &&& (2147483647 : Int32))), .val (.int (1 : Int32)), .val (.long q3), .second, .val (.long (0 : Int64)), .second, .val (.int (1 : Int32)), .val (.int (1 : Int32)), .val (.ref b1), .val (.int (1 : Int32)), .val (.int (1 : Int32)), .val (.int (1 : Int32)), .unset] [])) _
    refine XS.aload X6.here hx rfl (hb hby at_135) rfl rfl ?_
    show Steps p.tables e below (T6.setTop (mkF m 137 #[.val (.int p1), .val (.int p2), .val (.long q3), .second, .val (.long q4), .second, .val (.int (p2 &&& (2147483647 : Int32))), .val (.int (1 : Int32)), .val (.long q3), .second, .val (.long (0 : Int64)), .second, .val (.int (1 : Int32)), .val (.int (1 : Int32)), .val (.ref b1), .val (.int (1 : Int32)), .val (.int (1 : Int32)), .val (.int (1 : Int32)), .unset] [(.ref b1)])) _
    refine st7.trans ?_
    show Steps p.tables e below (T7.setTop (mkF m 140 #[.val (.int p1), .val (.int p2), .val (.long q3), .second, .val (.long q4), .second, .val (.int (p2 &&& (2147483647 : Int32))), .val (.int (1 : Int32)), .val (.long q3), .second, .val (.long (0 : Int64)), .second, .val (.int (1 : Int32)), .val (.int (1 : Int32)), .val (.ref b1), .val (.int (1 : Int32)), .val (.int (1 : Int32)), .val (.int (1 : Int32)), .unset] [])) _
    refine XS.aload X7.here hx rfl (hb hby at_140) rfl rfl ?_
    show Steps p.tables e below (T7.setTop (mkF m 142 #[.val (.int p1), .val (.int p2), .val (.long q3), .second, .val (.long q4), .second, .val (.int (p2 &&& (2147483647 : Int32))), .val (.int (1 : Int32)), .val (.long q3), .second, .val (.long (0 : Int64)), .second, .val (.int (1 : Int32)), .val (.int (1 : Int32)), .val (.ref b1), .val (.int (1 : Int32)), .val (.int (1 : Int32)), .val (.int (1 : Int32)), .unset] [(.ref b1)])) _
    refine st8.trans ?_
    show Steps p.tables e below (T8.setTop (mkF m 145 #[.val (.int p1), .val (.int p2), .val (.long q3), .second, .val (.long q4), .second, .val (.int (p2 &&& (2147483647 : Int32))), .val (.int (1 : Int32)), .val (.long q3), .second, .val (.long (0 : Int64)), .second, .val (.int (1 : Int32)), .val (.int (1 : Int32)), .val (.ref b1), .val (.int (1 : Int32)), .val (.int (1 : Int32)), .val (.int (1 : Int32)), .unset] [(.int (1 : Int32))])) _
    refine XS.istore X8.here hx rfl (hb hby at_145) rfl (l' := #[.val (.int p1), .val (.int p2), .val (.long q3), .second, .val (.long q4), .second, .val (.int (p2 &&& (2147483647 : Int32))), .val (.int (1 : Int32)), .val (.long q3), .second, .val (.long (0 : Int64)), .second, .val (.int (1 : Int32)), .val (.int (1 : Int32)), .val (.ref b1), .val (.int (1 : Int32)), .val (.int (1 : Int32)), .val (.int (1 : Int32)), .val (.int (1 : Int32))]) rfl ?_
    show Steps p.tables e below (T8.setTop (mkF m 147 #[.val (.int p1), .val (.int p2), .val (.long q3), .second, .val (.long q4), .second, .val (.int (p2 &&& (2147483647 : Int32))), .val (.int (1 : Int32)), .val (.long q3), .second, .val (.long (0 : Int64)), .second, .val (.int (1 : Int32)), .val (.int (1 : Int32)), .val (.ref b1), .val (.int (1 : Int32)), .val (.int (1 : Int32)), .val (.int (1 : Int32)), .val (.int (1 : Int32))] [])) _
    refine XS.iload X8.here hx rfl (hb hby at_147) rfl ?_
    show Steps p.tables e below (T8.setTop (mkF m 149 #[.val (.int p1), .val (.int p2), .val (.long q3), .second, .val (.long q4), .second, .val (.int (p2 &&& (2147483647 : Int32))), .val (.int (1 : Int32)), .val (.long q3), .second, .val (.long (0 : Int64)), .second, .val (.int (1 : Int32)), .val (.int (1 : Int32)), .val (.ref b1), .val (.int (1 : Int32)), .val (.int (1 : Int32)), .val (.int (1 : Int32)), .val (.int (1 : Int32))] [(.int (1 : Int32))])) _
    refine XS.iload X8.here hx rfl (hb hby at_149) rfl ?_
    show Steps p.tables e below (T8.setTop (mkF m 151 #[.val (.int p1), .val (.int p2), .val (.long q3), .second, .val (.long q4), .second, .val (.int (p2 &&& (2147483647 : Int32))), .val (.int (1 : Int32)), .val (.long q3), .second, .val (.long (0 : Int64)), .second, .val (.int (1 : Int32)), .val (.int (1 : Int32)), .val (.ref b1), .val (.int (1 : Int32)), .val (.int (1 : Int32)), .val (.int (1 : Int32)), .val (.int (1 : Int32))] [(.int (1 : Int32)), (.int (1 : Int32))])) _
    refine XS.icmpNo X8.here hx rfl (hb hby at_151) rfl (teq ((by decide) : (1 : Int32) = (1 : Int32))).2 ?_
    show Steps p.tables e below (T8.setTop (mkF m 154 #[.val (.int p1), .val (.int p2), .val (.long q3), .second, .val (.long q4), .second, .val (.int (p2 &&& (2147483647 : Int32))), .val (.int (1 : Int32)), .val (.long q3), .second, .val (.long (0 : Int64)), .second, .val (.int (1 : Int32)), .val (.int (1 : Int32)), .val (.ref b1), .val (.int (1 : Int32)), .val (.int (1 : Int32)), .val (.int (1 : Int32)), .val (.int (1 : Int32))] [])) _
    refine XS.iload X8.here hx rfl (hb hby at_154) rfl ?_
    show Steps p.tables e below (T8.setTop (mkF m 156 #[.val (.int p1), .val (.int p2), .val (.long q3), .second, .val (.long q4), .second, .val (.int (p2 &&& (2147483647 : Int32))), .val (.int (1 : Int32)), .val (.long q3), .second, .val (.long (0 : Int64)), .second, .val (.int (1 : Int32)), .val (.int (1 : Int32)), .val (.ref b1), .val (.int (1 : Int32)), .val (.int (1 : Int32)), .val (.int (1 : Int32)), .val (.int (1 : Int32))] [(.int (1 : Int32))])) _
    refine XS.iload X8.here hx rfl (hb hby at_156) rfl ?_
    show Steps p.tables e below (T8.setTop (mkF m 158 #[.val (.int p1), .val (.int p2), .val (.long q3), .second, .val (.long q4), .second, .val (.int (p2 &&& (2147483647 : Int32))), .val (.int (1 : Int32)), .val (.long q3), .second, .val (.long (0 : Int64)), .second, .val (.int (1 : Int32)), .val (.int (1 : Int32)), .val (.ref b1), .val (.int (1 : Int32)), .val (.int (1 : Int32)), .val (.int (1 : Int32)), .val (.int (1 : Int32))] [(.int (1 : Int32)), (.int (1 : Int32))])) _
    refine XS.icmpNo X8.here hx rfl (hb hby at_158) rfl (teq ((by decide) : (1 : Int32) = (1 : Int32))).2 ?_
    show Steps p.tables e below (T8.setTop (mkF m 161 #[.val (.int p1), .val (.int p2), .val (.long q3), .second, .val (.long q4), .second, .val (.int (p2 &&& (2147483647 : Int32))), .val (.int (1 : Int32)), .val (.long q3), .second, .val (.long (0 : Int64)), .second, .val (.int (1 : Int32)), .val (.int (1 : Int32)), .val (.ref b1), .val (.int (1 : Int32)), .val (.int (1 : Int32)), .val (.int (1 : Int32)), .val (.int (1 : Int32))] [])) _
    refine XS.iload X8.here hx rfl (hb hby at_161) rfl ?_
    show Steps p.tables e below (T8.setTop (mkF m 163 #[.val (.int p1), .val (.int p2), .val (.long q3), .second, .val (.long q4), .second, .val (.int (p2 &&& (2147483647 : Int32))), .val (.int (1 : Int32)), .val (.long q3), .second, .val (.long (0 : Int64)), .second, .val (.int (1 : Int32)), .val (.int (1 : Int32)), .val (.ref b1), .val (.int (1 : Int32)), .val (.int (1 : Int32)), .val (.int (1 : Int32)), .val (.int (1 : Int32))] [(.int (1 : Int32))])) _
    refine XS.ifNo X8.here hx rfl (hb hby at_163) rfl ((if0 _ _).trans (feq ((by decide) : ¬ ((1 : Int32) = (0 : Int32)))).1) ?_
    show Steps p.tables e below (T8.setTop (mkF m 166 #[.val (.int p1), .val (.int p2), .val (.long q3), .second, .val (.long q4), .second, .val (.int (p2 &&& (2147483647 : Int32))), .val (.int (1 : Int32)), .val (.long q3), .second, .val (.long (0 : Int64)), .second, .val (.int (1 : Int32)), .val (.int (1 : Int32)), .val (.ref b1), .val (.int (1 : Int32)), .val (.int (1 : Int32)), .val (.int (1 : Int32)), .val (.int (1 : Int32))] [])) _
    refine XS.iload X8.here hx rfl (hb hby at_166) rfl ?_
    show Steps p.tables e below (T8.setTop (mkF m 168 #[.val (.int p1), .val (.int p2), .val (.long q3), .second, .val (.long q4), .second, .val (.int (p2 &&& (2147483647 : Int32))), .val (.int (1 : Int32)), .val (.long q3), .second, .val (.long (0 : Int64)), .second, .val (.int (1 : Int32)), .val (.int (1 : Int32)), .val (.ref b1), .val (.int (1 : Int32)), .val (.int (1 : Int32)), .val (.int (1 : Int32)), .val (.int (1 : Int32))] [(.int (1 : Int32))])) _
    refine XS.ifNo X8.here hx rfl (hb hby at_168) rfl ((if0 _ _).trans (feq ((by decide) : ¬ ((1 : Int32) = (0 : Int32)))).1) ?_
    show Steps p.tables e below (T8.setTop (mkF m 171 #[.val (.int p1), .val (.int p2), .val (.long q3), .second, .val (.long q4), .second, .val (.int (p2 &&& (2147483647 : Int32))), .val (.int (1 : Int32)), .val (.long q3), .second, .val (.long (0 : Int64)), .second, .val (.int (1 : Int32)), .val (.int (1 : Int32)), .val (.ref b1), .val (.int (1 : Int32)), .val (.int (1 : Int32)), .val (.int (1 : Int32)), .val (.int (1 : Int32))] [])) _
    refine XS.aload X8.here hx rfl (hb hby at_171) rfl rfl ?_
    show Steps p.tables e below (T8.setTop (mkF m 173 #[.val (.int p1), .val (.int p2), .val (.long q3), .second, .val (.long q4), .second, .val (.int (p2 &&& (2147483647 : Int32))), .val (.int (1 : Int32)), .val (.long q3), .second, .val (.long (0 : Int64)), .second, .val (.int (1 : Int32)), .val (.int (1 : Int32)), .val (.ref b1), .val (.int (1 : Int32)), .val (.int (1 : Int32)), .val (.int (1 : Int32)), .val (.int (1 : Int32))] [(.ref b1)])) _
    refine st9.trans ?_
    show Steps p.tables e below (T9.setTop (mkF m 176 #[.val (.int p1), .val (.int p2), .val (.long q3), .second, .val (.long q4), .second, .val (.int (p2 &&& (2147483647 : Int32))), .val (.int (1 : Int32)), .val (.long q3), .second, .val (.long (0 : Int64)), .second, .val (.int (1 : Int32)), .val (.int (1 : Int32)), .val (.ref b1), .val (.int (1 : Int32)), .val (.int (1 : Int32)), .val (.int (1 : Int32)), .val (.int (1 : Int32))] [(.int (1 : Int32))])) _
    refine XS.iload X9.here hx rfl (hb hby at_176) rfl ?_
    show Steps p.tables e below (T9.setTop (mkF m 178 #[.val (.int p1), .val (.int p2), .val (.long q3), .second, .val (.long q4), .second, .val (.int (p2 &&& (2147483647 : Int32))), .val (.int (1 : Int32)), .val (.long q3), .second, .val (.long (0 : Int64)), .second, .val (.int (1 : Int32)), .val (.int (1 : Int32)), .val (.ref b1), .val (.int (1 : Int32)), .val (.int (1 : Int32)), .val (.int (1 : Int32)), .val (.int (1 : Int32))] [(.int (1 : Int32)), (.int (1 : Int32))])) _
    refine XS.icmpNo X9.here hx rfl (hb hby at_178) rfl (teq ((by decide) : (1 : Int32) = (1 : Int32))).2 ?_
    show Steps p.tables e below (T9.setTop (mkF m 181 #[.val (.int p1), .val (.int p2), .val (.long q3), .second, .val (.long q4), .second, .val (.int (p2 &&& (2147483647 : Int32))), .val (.int (1 : Int32)), .val (.long q3), .second, .val (.long (0 : Int64)), .second, .val (.int (1 : Int32)), .val (.int (1 : Int32)), .val (.ref b1), .val (.int (1 : Int32)), .val (.int (1 : Int32)), .val (.int (1 : Int32)), .val (.int (1 : Int32))] [])) _
    refine XS.aload X9.here hx rfl (hb hby at_181) rfl rfl ?_
    show Steps p.tables e below (T9.setTop (mkF m 183 #[.val (.int p1), .val (.int p2), .val (.long q3), .second, .val (.long q4), .second, .val (.int (p2 &&& (2147483647 : Int32))), .val (.int (1 : Int32)), .val (.long q3), .second, .val (.long (0 : Int64)), .second, .val (.int (1 : Int32)), .val (.int (1 : Int32)), .val (.ref b1), .val (.int (1 : Int32)), .val (.int (1 : Int32)), .val (.int (1 : Int32)), .val (.int (1 : Int32))] [(.ref b1)])) _
    refine st10.trans ?_
    show Steps p.tables e below (T10.setTop (mkF m 186 #[.val (.int p1), .val (.int p2), .val (.long q3), .second, .val (.long q4), .second, .val (.int (p2 &&& (2147483647 : Int32))), .val (.int (1 : Int32)), .val (.long q3), .second, .val (.long (0 : Int64)), .second, .val (.int (1 : Int32)), .val (.int (1 : Int32)), .val (.ref b1), .val (.int (1 : Int32)), .val (.int (1 : Int32)), .val (.int (1 : Int32)), .val (.int (1 : Int32))] [(.ref b10)])) _
    refine X10.arraylength hx Ar11.1 (State.isArrayOf_alike hZ.alike Ar11.2.1) (g := (mkF m 186 #[.val (.int p1), .val (.int p2), .val (.long q3), .second, .val (.long q4), .second, .val (.int (p2 &&& (2147483647 : Int32))), .val (.int (1 : Int32)), .val (.long q3), .second, .val (.long (0 : Int64)), .second, .val (.int (1 : Int32)), .val (.int (1 : Int32)), .val (.ref b1), .val (.int (1 : Int32)), .val (.int (1 : Int32)), .val (.int (1 : Int32)), .val (.int (1 : Int32))] [(.ref b10)])) rfl rfl (hb hby at_186) _ ?_
    rw [len_of Sz11 Nz11]
    show Steps p.tables e below (T10.setTop (mkF m 187 #[.val (.int p1), .val (.int p2), .val (.long q3), .second, .val (.long q4), .second, .val (.int (p2 &&& (2147483647 : Int32))), .val (.int (1 : Int32)), .val (.long q3), .second, .val (.long (0 : Int64)), .second, .val (.int (1 : Int32)), .val (.int (1 : Int32)), .val (.ref b1), .val (.int (1 : Int32)), .val (.int (1 : Int32)), .val (.int (1 : Int32)), .val (.int (1 : Int32))] [(.int (0 : Int32))])) _
    refine XS.ifNo X10.here hx rfl (hb hby at_187) rfl ((if0 _ _).trans (teq ((by decide) : (0 : Int32) = (0 : Int32))).2) ?_
    show Steps p.tables e below (T10.setTop (mkF m 190 #[.val (.int p1), .val (.int p2), .val (.long q3), .second, .val (.long q4), .second, .val (.int (p2 &&& (2147483647 : Int32))), .val (.int (1 : Int32)), .val (.long q3), .second, .val (.long (0 : Int64)), .second, .val (.int (1 : Int32)), .val (.int (1 : Int32)), .val (.ref b1), .val (.int (1 : Int32)), .val (.int (1 : Int32)), .val (.int (1 : Int32)), .val (.int (1 : Int32))] [])) _
    refine XS.iconst X10.here hx rfl (hb hby at_190) ?_
    show Steps p.tables e below (T10.setTop (mkF m 191 #[.val (.int p1), .val (.int p2), .val (.long q3), .second, .val (.long q4), .second, .val (.int (p2 &&& (2147483647 : Int32))), .val (.int (1 : Int32)), .val (.long q3), .second, .val (.long (0 : Int64)), .second, .val (.int (1 : Int32)), .val (.int (1 : Int32)), .val (.ref b1), .val (.int (1 : Int32)), .val (.int (1 : Int32)), .val (.int (1 : Int32)), .val (.int (1 : Int32))] [(.int (1 : Int32))])) _
    refine XS.goto X10.here hx rfl (pc0 := 191) (pc' := 195) rfl (hb hby at_191) (by decide) (by decide) ?_
    show Steps p.tables e below (T10.setTop (mkF m 195 #[.val (.int p1), .val (.int p2), .val (.long q3), .second, .val (.long q4), .second, .val (.int (p2 &&& (2147483647 : Int32))), .val (.int (1 : Int32)), .val (.long q3), .second, .val (.long (0 : Int64)), .second, .val (.int (1 : Int32)), .val (.int (1 : Int32)), .val (.ref b1), .val (.int (1 : Int32)), .val (.int (1 : Int32)), .val (.int (1 : Int32)), .val (.int (1 : Int32))] [(.int (1 : Int32))])) _
    exact retN X10 hx (t := .boolean) Bd.returns (by simp) (hb hby at_195) hr
  · show Q0 n0 _ T10.heap _
    exact ⟨rfl, N10⟩
set_option maxRecDepth 65536 in
set_option maxHeartbeats 40000000 in
theorem rm0_1b (l : Launch) (Z : State) (a0 : Array Value) (hw : ∀ d ∈ tables_1, d.before a0 Z = true) (ws : List Jvm.Cond) {w_n2 : Addr} {w_n3 : Addr} {w_n4 : Addr} {w_n1 : Addr} {v_n0 : Int32} (W : Wd Z w_n2 w_n3 w_n4 w_n1 v_n0) (p1 : Int32) (p2 : Int32) (q3 : Int64) (q4 : Int64) (h0 : Heap) (n0 : Nat) (O0 : Old Z n0 h0) (hk : ((p1 &&& (2147483647 : Int32)) % (3 : Int32)) = (1 : Int32)) (xm : ¬ ((0 : Int32) < (lcmpW (0 : Int64) ((p2 &&& (2147483647 : Int32)).toInt64)))) (xs : (lcmpW q3 (0 : Int64)) < (0 : Int32)) (xk : (0 : Int32) < (lcmpW (0 : Int64) q3)) :
    MetFree l x (head1 (Jvm.Cond.code x code maxLocals ret :: ws) room_1) (fun a U => a = #[(.int p1), (.int p2), (.long q3), (.long q4)] ∧ Z.Warmed39 U.vm ∧ U.heap = h0) (fun _ _ _ _ _ => True) (fun _ U o U' => ∃ v L, o = .returned v ∧ Q0 n0 v U'.heap L ∧ FrameEnd U o U' L room_1.cells room_1.slots) := by
  have W' := W; obtain ⟨S_n2, E_n2, S_n3, E_n3, S_n4, E_n4, S_n1, E_n1, S_n0, N_n0, F_n2_ordinal, F_n3_ordinal⟩ := W'
  refine MetFree.of_bodySF (plainFor_of_name pn_0) hisR ?_
  intro p e s m args below meth c s₁ Bd hml0 hP hK
  obtain ⟨rfl, hZ, hh⟩ := hP
  have hx := Bd.exec
  have hby := Bd.bytes
  have hml : c.maxLocals = 19 := hml0
  have hown : s.vm.findClass "com/example/tillwire/tillwire/BodyReaderEndPinLaw" = some m.cls := findClass_of_methodNamed Bd.named
  have hnm := (name_of_methodNamed Bd.named Bd.method).1
  have X0 : Stand p l e room_1 s m #[(.int p1), (.int p2), (.long q3), (.long q4)] below meth c s₁ [] 0 0 := Stand.of_body Bd
  have e0 : s₁.heap = h0 := by rw [← hh, Bd.state]; rfl
  have N0 := Fr.nil n0
  have pre0 : ∀ t, Steps p.tables e below (s₁.setTop (mkF m 0 #[.val (.int p1), .val (.int p2), .val (.long q3), .second, .val (.long q4), .second, .unset, .unset, .unset, .unset, .unset, .unset, .unset, .unset, .unset, .unset, .unset, .unset, .unset] [])) t → Steps p.tables e below (s₁.setTop (entryFrame m #[(.int p1), (.int p2), (.long q3), (.long q4)] maxLocals)) t := fun t k => castTop (ef_0_16 m p1 p2 q3 q4) k
  obtain ⟨T1, h1, X1, e1, E1, A1, D1, U1, st1⟩ := newO X0 hx hZ hown (hw _ (List.mem_of_getElem? (i := 2) rfl)) (hw _ (List.mem_of_getElem? (i := 3) rfl)) (hw _ (List.mem_of_getElem? (i := 4) rfl)) e0 (g := (mkF m 94 #[.val (.int p1), .val (.int p2), .val (.long q3), .second, .val (.long q4), .second, .val (.int (p2 &&& (2147483647 : Int32))), .val (.int (1 : Int32)), .val (.long q3), .second, .val (.long (0 : Int64)), .second, .val (.int (0 : Int32)), .val (.int (1 : Int32)), .unset, .unset, .unset, .unset, .unset] [])) rfl (hb hby at_94) (by decide) (by decide)
  obtain ⟨b1, g1⟩ : ∃ z, z = h0.size := ⟨_, rfl⟩
  rw [← g1] at A1 D1 U1 st1
  have g_b1 : n0 ≤ b1 := by rw [g1]; exact O0.1 ▸ O0.2.1
  have O1 := O0.ext E1
  have f1_kept : Fld Z h1 b1 "com/example/tillwire/tillwire/HttpFraming$BodyReader" "kept" "Ljava/io/ByteArrayOutputStream;" .null := D1 (Or.inr (hw _ (List.mem_of_getElem? (i := 32) rfl))) (ty := (.object "java/io/ByteArrayOutputStream")) (by decide)
  have f1_line : Fld Z h1 b1 "com/example/tillwire/tillwire/HttpFraming$BodyReader" "line" "Lcom/example/tillwire/tillwire/HttpFraming$Line;" .null := D1 (Or.inr (hw _ (List.mem_of_getElem? (i := 62) rfl))) (ty := (.object "com/example/tillwire/tillwire/HttpFraming$Line")) (by decide)
  have f1_whole : Fld Z h1 b1 "com/example/tillwire/tillwire/HttpFraming$BodyReader" "whole" "Z" (.int (0 : Int32)) := D1 (Or.inl (hw _ (List.mem_of_getElem? (i := 64) rfl))) (ty := .boolean) (by decide)
  have f1_chunked : Fld Z h1 b1 "com/example/tillwire/tillwire/HttpFraming$BodyReader" "chunked" "Z" (.int (0 : Int32)) := D1 (Or.inr (hw _ (List.mem_of_getElem? (i := 67) rfl))) (ty := .boolean) (by decide)
  have f1_keep : Fld Z h1 b1 "com/example/tillwire/tillwire/HttpFraming$BodyReader" "keep" "I" (.int (0 : Int32)) := D1 (Or.inr (hw _ (List.mem_of_getElem? (i := 69) rfl))) (ty := .int) (by decide)
  have f1_skip : Fld Z h1 b1 "com/example/tillwire/tillwire/HttpFraming$BodyReader" "skip" "J" (.long (0 : Int64)) := D1 (Or.inr (hw _ (List.mem_of_getElem? (i := 71) rfl))) (ty := .long) (by decide)
  have f1_part : Fld Z h1 b1 "com/example/tillwire/tillwire/HttpFraming$BodyReader" "part" "Lcom/example/tillwire/tillwire/HttpFraming$BodyReader$Part;" .null := D1 (Or.inl (hw _ (List.mem_of_getElem? (i := 77) rfl))) (ty := (.object "com/example/tillwire/tillwire/HttpFraming$BodyReader$Part")) (by decide)
  have f1_passed : Fld Z h1 b1 "com/example/tillwire/tillwire/HttpFraming$BodyReader" "passed" "J" (.long (0 : Int64)) := D1 (Or.inl (hw _ (List.mem_of_getElem? (i := 123) rfl))) (ty := .long) (by decide)
  have f1_left : Fld Z h1 b1 "com/example/tillwire/tillwire/HttpFraming$BodyReader" "left" "J" (.long (0 : Int64)) := D1 (Or.inl (hw _ (List.mem_of_getElem? (i := 127) rfl))) (ty := .long) (by decide)
  have f1_skipped : Fld Z h1 b1 "com/example/tillwire/tillwire/HttpFraming$BodyReader" "skipped" "J" (.long (0 : Int64)) := D1 (Or.inl (hw _ (List.mem_of_getElem? (i := 133) rfl))) (ty := .long) (by decide)
  obtain ⟨_, _, ⟨T2, L2, k2, n2⟩, -, X2, ⟨Lc2, hQ2, l2, y2, z2⟩, st2⟩ := X1.specialBack hx (y := (⟨"com/example/tillwire/tillwire/HttpFraming$BodyReader", "<init>", "(JIJ)V"⟩ : MethodName)) rfl hown (mvT hZ (hw _ (List.mem_of_getElem? (i := 5) rfl))) (mvT hZ (hw _ (List.mem_of_getElem? (i := 6) rfl))) (mvT hZ (hw _ (List.mem_of_getElem? (i := 7) rfl))) (by decide) (backOf (W := 1) (rm_n1b l Z a0 hw [] W b1 (p2 &&& (2147483647 : Int32)) q3 h1 n0 O1 xm xk g_b1 A1 f1_kept f1_line f1_whole f1_chunked f1_keep f1_skip f1_part f1_passed f1_left f1_skipped) hZ (hw _ (List.mem_of_getElem? (i := 7) rfl)) (hw _ (List.mem_of_getElem? (i := 4) rfl)) (by decide) (by decide)) (g := (mkF m 104 #[.val (.int p1), .val (.int p2), .val (.long q3), .second, .val (.long q4), .second, .val (.int (p2 &&& (2147483647 : Int32))), .val (.int (1 : Int32)), .val (.long q3), .second, .val (.long (0 : Int64)), .second, .val (.int (0 : Int32)), .val (.int (1 : Int32)), .unset, .unset, .unset, .unset, .unset] [(.long q3), (.int (p2 &&& (2147483647 : Int32))), (.long (0 : Int64)), (.ref b1), (.ref b1)])) rfl (by rw [hml]; rfl) (Steps.refl _) (a := b1) (argsL := [(.long (0 : Int64)), (.int (p2 &&& (2147483647 : Int32))), (.long q3)]) (rest := [(.ref b1)]) (lenOf pd_6 rfl) rfl (by show 2 * 0 + _ ≤ _; exact Nat.le_of_eq rfl) (hb hby at_104) (fun _ _ => ⟨rfl, e1, (by decide : 1 + 5 ≤ _), (by decide : 11 + 56 ≤ _)⟩)
  dsimp only [Pt.U, Pt.locs, Pt.cells, Pt.slots] at X2 l2 y2 z2 st2 hQ2
  subst l2 y2 z2
  obtain ⟨N2q, hP2⟩ := hQ2
  have N2 := Fr.app N0 N2q
  obtain ⟨b2_b2, b2_b3_b1_b2, k2_k3_k1_k2, rfl, Kp2, g_b2_b2, si_b2_b2, g_b2_b3_b1_b2, si_b2_b3_b1_b2, fp2_0, fp2_1, fp2_2, fp2_3, fp2_4, fp2_5, fp2_6, fp2_7, fp2_8, fp2_9⟩ := hP2
  have f2_0 : Exa Z T2.heap b1 "com/example/tillwire/tillwire/HttpFraming$BodyReader" := (A1).keep Kp2
  have O2 := O1.keep Kp2 (allS g_b1 all0)
  obtain ⟨cq3, kq3, q3a, q3b, q3c⟩ := isOf hZ rfl fp2_0
  obtain ⟨_, _, ⟨T3, L3, k3, n3⟩, -, X3, ⟨Lc3, hQ3, l3, y3, z3⟩, st3⟩ := X2.virtualBack hx (y := (⟨"com/example/tillwire/tillwire/HttpFraming$BodyReader", "done", "()Z"⟩ : MethodName)) (z := (⟨"com/example/tillwire/tillwire/HttpFraming$BodyReader", "done", "()Z"⟩ : MethodName)) hown (mvT hZ (hw _ (List.mem_of_getElem? (i := 78) rfl))) (mvT hZ (hw _ (List.mem_of_getElem? (i := 79) rfl))) (notFace_of_selects (args := #[]) (mvT hZ (hw _ (List.mem_of_getElem? (i := 81) rfl)))) (mvT hZ (hw _ (List.mem_of_getElem? (i := 81) rfl))) (mvT hZ (hw _ (List.mem_of_getElem? (i := 80) rfl))) (by decide) (backOf (W := 0) (rm_dnDONE l Z a0 hw [] W b1 T2.heap n0 O2 fp2_3) hZ (hw _ (List.mem_of_getElem? (i := 82) rfl)) (hw _ (List.mem_of_getElem? (i := 4) rfl)) (by decide) (by decide)) q3a q3c (g := (mkF m 111 #[.val (.int p1), .val (.int p2), .val (.long q3), .second, .val (.long q4), .second, .val (.int (p2 &&& (2147483647 : Int32))), .val (.int (1 : Int32)), .val (.long q3), .second, .val (.long (0 : Int64)), .second, .val (.int (0 : Int32)), .val (.int (1 : Int32)), .val (.ref b1), .unset, .unset, .unset, .unset] [(.ref b1)])) rfl (by rw [hml]; rfl) (Steps.refl _) (argsL := []) (rest := []) (lenOf pd_7 rfl) rfl (by show 2 * 0 + _ ≤ _; exact Nat.le_of_eq rfl) (hb hby at_111) (fun _ _ => ⟨rfl, rfl, (by decide : 6 + 0 ≤ _), (by decide : 67 + 0 ≤ _)⟩)
  dsimp only [Pt.U, Pt.locs, Pt.cells, Pt.slots] at X3 l3 y3 z3 st3 hQ3
  subst l3 y3 z3
  obtain ⟨rfl, N3q, e3⟩ := hQ3
  have N3 := Fr.app N2 N3q
  obtain ⟨cq4, kq4, q4a, q4b, q4c⟩ := isOf hZ e3 fp2_0
  obtain ⟨_, _, ⟨T4, L4, k4, n4⟩, -, X4, ⟨Lc4, hQ4, l4, y4, z4⟩, st4⟩ := X3.virtualBack hx (y := (⟨"com/example/tillwire/tillwire/HttpFraming$BodyReader", "whole", "()Z"⟩ : MethodName)) (z := (⟨"com/example/tillwire/tillwire/HttpFraming$BodyReader", "whole", "()Z"⟩ : MethodName)) hown (mvT hZ (hw _ (List.mem_of_getElem? (i := 85) rfl))) (mvT hZ (hw _ (List.mem_of_getElem? (i := 86) rfl))) (notFace_of_selects (args := #[]) (mvT hZ (hw _ (List.mem_of_getElem? (i := 88) rfl)))) (mvT hZ (hw _ (List.mem_of_getElem? (i := 88) rfl))) (mvT hZ (hw _ (List.mem_of_getElem? (i := 87) rfl))) (by decide) (backOf (W := 0) (rm_wh0 l Z a0 hw [] W b1 T2.heap n0 O2 fp2_2) hZ (hw _ (List.mem_of_getElem? (i := 89) rfl)) (hw _ (List.mem_of_getElem? (i := 4) rfl)) (by decide) (by decide)) q4a q4c (g := (mkF m 118 #[.val (.int p1), .val (.int p2), .val (.long q3), .second, .val (.long q4), .second, .val (.int (p2 &&& (2147483647 : Int32))), .val (.int (1 : Int32)), .val (.long q3), .second, .val (.long (0 : Int64)), .second, .val (.int (0 : Int32)), .val (.int (1 : Int32)), .val (.ref b1), .val (.int (1 : Int32)), .unset, .unset, .unset] [(.ref b1)])) rfl (by rw [hml]; rfl) (Steps.refl _) (argsL := []) (rest := []) (lenOf pd_7 rfl) rfl (by show 2 * 0 + _ ≤ _; exact Nat.le_of_eq rfl) (hb hby at_118) (fun _ _ => ⟨rfl, e3, (by decide : 6 + 0 ≤ _), (by decide : 67 + 0 ≤ _)⟩)
  dsimp only [Pt.U, Pt.locs, Pt.cells, Pt.slots] at X4 l4 y4 z4 st4 hQ4
  subst l4 y4 z4
  obtain ⟨rfl, N4q, e4⟩ := hQ4
  have N4 := Fr.app N3 N4q
  obtain ⟨cq5, kq5, q5a, q5b, q5c⟩ := isOf hZ e4 fp2_0
  obtain ⟨_, _, ⟨T5, L5, k5, n5⟩, -, X5, ⟨Lc5, hQ5, l5, y5, z5⟩, st5⟩ := X4.virtualBack hx (y := (⟨"com/example/tillwire/tillwire/HttpFraming$BodyReader", "end", "()V"⟩ : MethodName)) (z := (⟨"com/example/tillwire/tillwire/HttpFraming$BodyReader", "end", "()V"⟩ : MethodName)) hown (mvT hZ (hw _ (List.mem_of_getElem? (i := 90) rfl))) (mvT hZ (hw _ (List.mem_of_getElem? (i := 91) rfl))) (notFace_of_selects (args := #[]) (mvT hZ (hw _ (List.mem_of_getElem? (i := 93) rfl)))) (mvT hZ (hw _ (List.mem_of_getElem? (i := 93) rfl))) (mvT hZ (hw _ (List.mem_of_getElem? (i := 92) rfl))) (by decide) (backOf (W := 0) (rm_enDONE l Z a0 hw [] W b1 b2_b2 (0 : Int32) T2.heap n0 O2 g_b1 fp2_0 fp2_1 fp2_2 fp2_3) hZ (hw _ (List.mem_of_getElem? (i := 94) rfl)) (hw _ (List.mem_of_getElem? (i := 4) rfl)) (by decide) (by decide)) q5a q5c (g := (mkF m 125 #[.val (.int p1), .val (.int p2), .val (.long q3), .second, .val (.long q4), .second, .val (.int (p2 &&& (2147483647 : Int32))), .val (.int (1 : Int32)), .val (.long q3), .second, .val (.long (0 : Int64)), .second, .val (.int (0 : Int32)), .val (.int (1 : Int32)), .val (.ref b1), .val (.int (1 : Int32)), .val (.int (0 : Int32)), .unset, .unset] [(.ref b1)])) rfl (by rw [hml]; rfl) (Steps.refl _) (argsL := []) (rest := []) (lenOf pd_0 rfl) rfl (by show 2 * 0 + _ ≤ _; exact Nat.le_of_eq rfl) (hb hby at_125) (fun _ _ => ⟨rfl, e4, (by decide : 6 + 0 ≤ _), (by decide : 67 + 0 ≤ _)⟩)
  dsimp only [Pt.U, Pt.locs, Pt.cells, Pt.slots] at X5 l5 y5 z5 st5 hQ5
  subst l5 y5 z5
  obtain ⟨N5q, hP5⟩ := hQ5
  have N5 := Fr.app N4 N5q
  obtain ⟨rfl, Kp5, fp5_0, fp5_1, fp5_2, fp5_3⟩ := hP5
  have f5_0 : Exa Z T5.heap b1 "com/example/tillwire/tillwire/HttpFraming$BodyReader" := (fp2_0).keep Kp5
  have f5_1 : Exa Z T5.heap b2_b2 "java/io/ByteArrayOutputStream" := (fp2_4).keep Kp5
  have f5_2 : Unt T5.heap b2_b2 := own_untk fp2_5 Kp5 (ninS (ne_exa fp2_4 fp2_0 (by decide)) nin0)
  have f5_3 : Fld Z T5.heap b2_b2 "java/io/ByteArrayOutputStream" "buf" "[B" (.ref b2_b3_b1_b2) := (fp2_6).keep Kp5 (ninS (ne_exa fp2_4 fp2_0 (by decide)) nin0)
  have f5_4 : Fld Z T5.heap b2_b2 "java/io/ByteArrayOutputStream" "count" "I" (.int (0 : Int32)) := (fp2_7).keep Kp5 (ninS (ne_exa fp2_4 fp2_0 (by decide)) nin0)
  have f5_5 : Exa Z T5.heap b2_b3_b1_b2 "[B" := (fp2_8).keep Kp5
  have f5_6 : Arv Z T5.heap b2_b3_b1_b2 k2_k3_k1_k2 .byte (32 : Int32) [] (.int (0 : Int32)) := (fp2_9).keep Kp5 (ninS (ne_exa fp2_8 fp2_0 (by decide)) nin0)
  have O5 := O2.keep Kp5 (allS g_b1 all0)
  obtain ⟨cq6, kq6, q6a, q6b, q6c⟩ := isOf hZ rfl fp5_0
  obtain ⟨_, _, ⟨T6, L6, k6, n6⟩, -, X6, ⟨Lc6, hQ6, l6, y6, z6⟩, st6⟩ := X5.virtualBack hx (y := (⟨"com/example/tillwire/tillwire/HttpFraming$BodyReader", "done", "()Z"⟩ : MethodName)) (z := (⟨"com/example/tillwire/tillwire/HttpFraming$BodyReader", "done", "()Z"⟩ : MethodName)) hown (mvT hZ (hw _ (List.mem_of_getElem? (i := 78) rfl))) (mvT hZ (hw _ (List.mem_of_getElem? (i := 79) rfl))) (notFace_of_selects (args := #[]) (mvT hZ (hw _ (List.mem_of_getElem? (i := 81) rfl)))) (mvT hZ (hw _ (List.mem_of_getElem? (i := 81) rfl))) (mvT hZ (hw _ (List.mem_of_getElem? (i := 80) rfl))) (by decide) (backOf (W := 0) (rm_dnDONE l Z a0 hw [] W b1 T5.heap n0 O5 fp5_3) hZ (hw _ (List.mem_of_getElem? (i := 82) rfl)) (hw _ (List.mem_of_getElem? (i := 4) rfl)) (by decide) (by decide)) q6a q6c (g := (mkF m 130 #[.val (.int p1), .val (.int p2), .val (.long q3), .second, .val (.long q4), .second, .val (.int (p2 &&& (2147483647 : Int32))), .val (.int (1 : Int32)), .val (.long q3), .second, .val (.long (0 : Int64)), .second, .val (.int (0 : Int32)), .val (.int (1 : Int32)), .val (.ref b1), .val (.int (1 : Int32)), .val (.int (0 : Int32)), .unset, .unset] [(.ref b1)])) rfl (by rw [hml]; rfl) (Steps.refl _) (argsL := []) (rest := []) (lenOf pd_7 rfl) rfl (by show 2 * 0 + _ ≤ _; exact Nat.le_of_eq rfl) (hb hby at_130) (fun _ _ => ⟨rfl, rfl, (by decide : 6 + 0 ≤ _), (by decide : 67 + 0 ≤ _)⟩)
  dsimp only [Pt.U, Pt.locs, Pt.cells, Pt.slots] at X6 l6 y6 z6 st6 hQ6
  subst l6 y6 z6
  obtain ⟨rfl, N6q, e6⟩ := hQ6
  have N6 := Fr.app N5 N6q
  obtain ⟨cq7, kq7, q7a, q7b, q7c⟩ := isOf hZ e6 fp5_0
  obtain ⟨_, _, ⟨T7, L7, k7, n7⟩, -, X7, ⟨Lc7, hQ7, l7, y7, z7⟩, st7⟩ := X6.virtualBack hx (y := (⟨"com/example/tillwire/tillwire/HttpFraming$BodyReader", "end", "()V"⟩ : MethodName)) (z := (⟨"com/example/tillwire/tillwire/HttpFraming$BodyReader", "end", "()V"⟩ : MethodName)) hown (mvT hZ (hw _ (List.mem_of_getElem? (i := 90) rfl))) (mvT hZ (hw _ (List.mem_of_getElem? (i := 91) rfl))) (notFace_of_selects (args := #[]) (mvT hZ (hw _ (List.mem_of_getElem? (i := 93) rfl)))) (mvT hZ (hw _ (List.mem_of_getElem? (i := 93) rfl))) (mvT hZ (hw _ (List.mem_of_getElem? (i := 92) rfl))) (by decide) (backOf (W := 0) (rm_enDONE l Z a0 hw [] W b1 b2_b2 (0 : Int32) T5.heap n0 O5 g_b1 fp5_0 fp5_1 fp5_2 fp5_3) hZ (hw _ (List.mem_of_getElem? (i := 94) rfl)) (hw _ (List.mem_of_getElem? (i := 4) rfl)) (by decide) (by decide)) q7a q7c (g := (mkF m 137 #[.val (.int p1), .val (.int p2), .val (.long q3), .second, .val (.long q4), .second, .val (.int (p2 &&& (2147483647 : Int32))), .val (.int (1 : Int32)), .val (.long q3), .second, .val (.long (0 : Int64)), .second, .val (.int (0 : Int32)), .val (.int (1 : Int32)), .val (.ref b1), .val (.int (1 : Int32)), .val (.int (0 : Int32)), .val (.int (1 : Int32)), .unset] [(.ref b1)])) rfl (by rw [hml]; rfl) (Steps.refl _) (argsL := []) (rest := []) (lenOf pd_0 rfl) rfl (by show 2 * 0 + _ ≤ _; exact Nat.le_of_eq rfl) (hb hby at_137) (fun _ _ => ⟨rfl, e6, (by decide : 6 + 0 ≤ _), (by decide : 67 + 0 ≤ _)⟩)
  dsimp only [Pt.U, Pt.locs, Pt.cells, Pt.slots] at X7 l7 y7 z7 st7 hQ7
  subst l7 y7 z7
  obtain ⟨N7q, hP7⟩ := hQ7
  have N7 := Fr.app N6 N7q
  obtain ⟨rfl, Kp7, fp7_0, fp7_1, fp7_2, fp7_3⟩ := hP7
  have f7_0 : Exa Z T7.heap b1 "com/example/tillwire/tillwire/HttpFraming$BodyReader" := (fp5_0).keep Kp7
  have f7_1 : Exa Z T7.heap b2_b2 "java/io/ByteArrayOutputStream" := (f5_1).keep Kp7
  have f7_2 : Unt T7.heap b2_b2 := own_untk f5_2 Kp7 (ninS (ne_exa f5_1 fp5_0 (by decide)) nin0)
  have f7_3 : Fld Z T7.heap b2_b2 "java/io/ByteArrayOutputStream" "buf" "[B" (.ref b2_b3_b1_b2) := (f5_3).keep Kp7 (ninS (ne_exa f5_1 fp5_0 (by decide)) nin0)
  have f7_4 : Fld Z T7.heap b2_b2 "java/io/ByteArrayOutputStream" "count" "I" (.int (0 : Int32)) := (f5_4).keep Kp7 (ninS (ne_exa f5_1 fp5_0 (by decide)) nin0)
  have f7_5 : Exa Z T7.heap b2_b3_b1_b2 "[B" := (f5_5).keep Kp7
  have f7_6 : Arv Z T7.heap b2_b3_b1_b2 k2_k3_k1_k2 .byte (32 : Int32) [] (.int (0 : Int32)) := (f5_6).keep Kp7 (ninS (ne_exa f5_5 fp5_0 (by decide)) nin0)
  have O7 := O5.keep Kp7 (allS g_b1 all0)
  obtain ⟨cq8, kq8, q8a, q8b, q8c⟩ := isOf hZ rfl fp7_0
  obtain ⟨_, _, ⟨T8, L8, k8, n8⟩, -, X8, ⟨Lc8, hQ8, l8, y8, z8⟩, st8⟩ := X7.virtualBack hx (y := (⟨"com/example/tillwire/tillwire/HttpFraming$BodyReader", "done", "()Z"⟩ : MethodName)) (z := (⟨"com/example/tillwire/tillwire/HttpFraming$BodyReader", "done", "()Z"⟩ : MethodName)) hown (mvT hZ (hw _ (List.mem_of_getElem? (i := 78) rfl))) (mvT hZ (hw _ (List.mem_of_getElem? (i := 79) rfl))) (notFace_of_selects (args := #[]) (mvT hZ (hw _ (List.mem_of_getElem? (i := 81) rfl)))) (mvT hZ (hw _ (List.mem_of_getElem? (i := 81) rfl))) (mvT hZ (hw _ (List.mem_of_getElem? (i := 80) rfl))) (by decide) (backOf (W := 0) (rm_dnDONE l Z a0 hw [] W b1 T7.heap n0 O7 fp7_3) hZ (hw _ (List.mem_of_getElem? (i := 82) rfl)) (hw _ (List.mem_of_getElem? (i := 4) rfl)) (by decide) (by decide)) q8a q8c (g := (mkF m 142 #[.val (.int p1), .val (.int p2), .val (.long q3), .second, .val (.long q4), .second, .val (.int (p2 &&& (2147483647 : Int32))), .val (.int (1 : Int32)), .val (.long q3), .second, .val (.long (0 : Int64)), .second, .val (.int (0 : Int32)), .val (.int (1 : Int32)), .val (.ref b1), .val (.int (1 : Int32)), .val (.int (0 : Int32)), .val (.int (1 : Int32)), .unset] [(.ref b1)])) rfl (by rw [hml]; rfl) (Steps.refl _) (argsL := []) (rest := []) (lenOf pd_7 rfl) rfl (by show 2 * 0 + _ ≤ _; exact Nat.le_of_eq rfl) (hb hby at_142) (fun _ _ => ⟨rfl, rfl, (by decide : 6 + 0 ≤ _), (by decide : 67 + 0 ≤ _)⟩)
  dsimp only [Pt.U, Pt.locs, Pt.cells, Pt.slots] at X8 l8 y8 z8 st8 hQ8
  subst l8 y8 z8
  obtain ⟨rfl, N8q, e8⟩ := hQ8
  have N8 := Fr.app N7 N8q
  obtain ⟨cq9, kq9, q9a, q9b, q9c⟩ := isOf hZ e8 fp7_0
  obtain ⟨_, _, ⟨T9, L9, k9, n9⟩, -, X9, ⟨Lc9, hQ9, l9, y9, z9⟩, st9⟩ := X8.virtualBack hx (y := (⟨"com/example/tillwire/tillwire/HttpFraming$BodyReader", "whole", "()Z"⟩ : MethodName)) (z := (⟨"com/example/tillwire/tillwire/HttpFraming$BodyReader", "whole", "()Z"⟩ : MethodName)) hown (mvT hZ (hw _ (List.mem_of_getElem? (i := 85) rfl))) (mvT hZ (hw _ (List.mem_of_getElem? (i := 86) rfl))) (notFace_of_selects (args := #[]) (mvT hZ (hw _ (List.mem_of_getElem? (i := 88) rfl)))) (mvT hZ (hw _ (List.mem_of_getElem? (i := 88) rfl))) (mvT hZ (hw _ (List.mem_of_getElem? (i := 87) rfl))) (by decide) (backOf (W := 0) (rm_wh0 l Z a0 hw [] W b1 T7.heap n0 O7 fp7_2) hZ (hw _ (List.mem_of_getElem? (i := 89) rfl)) (hw _ (List.mem_of_getElem? (i := 4) rfl)) (by decide) (by decide)) q9a q9c (g := (mkF m 173 #[.val (.int p1), .val (.int p2), .val (.long q3), .second, .val (.long q4), .second, .val (.int (p2 &&& (2147483647 : Int32))), .val (.int (1 : Int32)), .val (.long q3), .second, .val (.long (0 : Int64)), .second, .val (.int (0 : Int32)), .val (.int (1 : Int32)), .val (.ref b1), .val (.int (1 : Int32)), .val (.int (0 : Int32)), .val (.int (1 : Int32)), .val (.int (1 : Int32))] [(.ref b1)])) rfl (by rw [hml]; rfl) (Steps.refl _) (argsL := []) (rest := []) (lenOf pd_7 rfl) rfl (by show 2 * 0 + _ ≤ _; exact Nat.le_of_eq rfl) (hb hby at_173) (fun _ _ => ⟨rfl, e8, (by decide : 6 + 0 ≤ _), (by decide : 67 + 0 ≤ _)⟩)
  dsimp only [Pt.U, Pt.locs, Pt.cells, Pt.slots] at X9 l9 y9 z9 st9 hQ9
  subst l9 y9 z9
  obtain ⟨rfl, N9q, e9⟩ := hQ9
  have N9 := Fr.app N8 N9q
  obtain ⟨cq10, kq10, q10a, q10b, q10c⟩ := isOf hZ e9 fp7_0
  obtain ⟨_, _, ⟨T10, L10, k10, n10⟩, -, X10, ⟨Lc10, hQ10, l10, y10, z10⟩, st10⟩ := X9.virtualBack hx (y := (⟨"com/example/tillwire/tillwire/HttpFraming$BodyReader", "bytes", "()[B"⟩ : MethodName)) (z := (⟨"com/example/tillwire/tillwire/HttpFraming$BodyReader", "bytes", "()[B"⟩ : MethodName)) hown (mvT hZ (hw _ (List.mem_of_getElem? (i := 95) rfl))) (mvT hZ (hw _ (List.mem_of_getElem? (i := 96) rfl))) (notFace_of_selects (args := #[]) (mvT hZ (hw _ (List.mem_of_getElem? (i := 98) rfl)))) (mvT hZ (hw _ (List.mem_of_getElem? (i := 98) rfl))) (mvT hZ (hw _ (List.mem_of_getElem? (i := 97) rfl))) (by decide) (backOf (W := 0) (rm_by l Z a0 hw [] W b1 b2_b2 b2_b3_b1_b2 k2_k3_k1_k2 T7.heap n0 O7 g_b1 fp7_1 g_b2_b2 f7_1 f7_2 f7_3 f7_4 g_b2_b3_b1_b2 f7_6) hZ (hw _ (List.mem_of_getElem? (i := 99) rfl)) (hw _ (List.mem_of_getElem? (i := 4) rfl)) (by decide) (by decide)) q10a q10c (g := (mkF m 183 #[.val (.int p1), .val (.int p2), .val (.long q3), .second, .val (.long q4), .second, .val (.int (p2 &&& (2147483647 : Int32))), .val (.int (1 : Int32)), .val (.long q3), .second, .val (.long (0 : Int64)), .second, .val (.int (0 : Int32)), .val (.int (1 : Int32)), .val (.ref b1), .val (.int (1 : Int32)), .val (.int (0 : Int32)), .val (.int (1 : Int32)), .val (.int (1 : Int32))] [(.ref b1)])) rfl (by rw [hml]; rfl) (Steps.refl _) (argsL := []) (rest := []) (lenOf pd_5 rfl) rfl (by show 2 * 0 + _ ≤ _; exact Nat.le_of_eq rfl) (hb hby at_183) (fun _ _ => ⟨rfl, e9, (by decide : 6 + 1 ≤ _), (by decide : 67 + 0 ≤ _)⟩)
  dsimp only [Pt.U, Pt.locs, Pt.cells, Pt.slots] at X10 l10 y10 z10 st10 hQ10
  subst l10 y10 z10
  obtain ⟨N10q, hP10⟩ := hQ10
  have N10 := Fr.app N9 N10q
  obtain ⟨b10, k10, rfl, g_b10, fv10⟩ := hP10
  obtain ⟨cl11, Ar11, qk11, Sz11, Nz11, Hs11, Gs11⟩ := id fv10
  obtain ⟨fs, hr, hrun, hended, hW, hsame⟩ := X10.leave (v := some (.int (1 : Int32))) (fun h => by rw [Bd.returns] at h; cases h)
  refine ⟨_, _, pre0 _ ?_, hrun, hended, _, _, rfl, ?_, ⟨_, rfl⟩, hW, hsame.mono (by decide) (by decide)⟩
  · show Steps p.tables e below (s₁.setTop (mkF m 0 #[.val (.int p1), .val (.int p2), .val (.long q3), .second, .val (.long q4), .second, .unset, .unset, .unset, .unset, .unset, .unset, .unset, .unset, .unset, .unset, .unset, .unset, .unset] [])) _
    refine XS.iloadN X0.here hx rfl (hb hby at_0) rfl ?_
    show Steps p.tables e below (s₁.setTop (mkF m 1 #[.val (.int p1), .val (.int p2), .val (.long q3), .second, .val (.long q4), .second, .unset, .unset, .unset, .unset, .unset, .unset, .unset, .unset, .unset, .unset, .unset, .unset, .unset] [(.int p2)])) _
    refine X0.ldcInt hx hown (mvT hZ (hw _ (List.mem_of_getElem? (i := 0) rfl))) (g := (mkF m 1 #[.val (.int p1), .val (.int p2), .val (.long q3), .second, .val (.long q4), .second, .unset, .unset, .unset, .unset, .unset, .unset, .unset, .unset, .unset, .unset, .unset, .unset, .unset] [(.int p2)])) rfl (hb hby at_1) _ ?_
    show Steps p.tables e below (s₁.setTop (mkF m 3 #[.val (.int p1), .val (.int p2), .val (.long q3), .second, .val (.long q4), .second, .unset, .unset, .unset, .unset, .unset, .unset, .unset, .unset, .unset, .unset, .unset, .unset, .unset] [(.int (2147483647 : Int32)), (.int p2)])) _
    refine XS.iand X0.here hx rfl (hb hby at_3) rfl ?_
    show Steps p.tables e below (s₁.setTop (mkF m 4 #[.val (.int p1), .val (.int p2), .val (.long q3), .second, .val (.long q4), .second, .unset, .unset, .unset, .unset, .unset, .unset, .unset, .unset, .unset, .unset, .unset, .unset, .unset] [(.int (p2 &&& (2147483647 : Int32)))])) _
    refine XS.istore X0.here hx rfl (hb hby at_4) rfl (l' := #[.val (.int p1), .val (.int p2), .val (.long q3), .second, .val (.long q4), .second, .val (.int (p2 &&& (2147483647 : Int32))), .unset, .unset, .unset, .unset, .unset, .unset, .unset, .unset, .unset, .unset, .unset, .unset]) rfl ?_
    show Steps p.tables e below (s₁.setTop (mkF m 6 #[.val (.int p1), .val (.int p2), .val (.long q3), .second, .val (.long q4), .second, .val (.int (p2 &&& (2147483647 : Int32))), .unset, .unset, .unset, .unset, .unset, .unset, .unset, .unset, .unset, .unset, .unset, .unset] [])) _
    refine XS.iloadN X0.here hx rfl (hb hby at_6) rfl ?_
    show Steps p.tables e below (s₁.setTop (mkF m 7 #[.val (.int p1), .val (.int p2), .val (.long q3), .second, .val (.long q4), .second, .val (.int (p2 &&& (2147483647 : Int32))), .unset, .unset, .unset, .unset, .unset, .unset, .unset, .unset, .unset, .unset, .unset, .unset] [(.int p1)])) _
    refine X0.ldcInt hx hown (mvT hZ (hw _ (List.mem_of_getElem? (i := 0) rfl))) (g := (mkF m 7 #[.val (.int p1), .val (.int p2), .val (.long q3), .second, .val (.long q4), .second, .val (.int (p2 &&& (2147483647 : Int32))), .unset, .unset, .unset, .unset, .unset, .unset, .unset, .unset, .unset, .unset, .unset, .unset] [(.int p1)])) rfl (hb hby at_7) _ ?_
    show Steps p.tables e below (s₁.setTop (mkF m 9 #[.val (.int p1), .val (.int p2), .val (.long q3), .second, .val (.long q4), .second, .val (.int (p2 &&& (2147483647 : Int32))), .unset, .unset, .unset, .unset, .unset, .unset, .unset, .unset, .unset, .unset, .unset, .unset] [(.int (2147483647 : Int32)), (.int p1)])) _
    refine XS.iand X0.here hx rfl (hb hby at_9) rfl ?_
    show Steps p.tables e below (s₁.setTop (mkF m 10 #[.val (.int p1), .val (.int p2), .val (.long q3), .second, .val (.long q4), .second, .val (.int (p2 &&& (2147483647 : Int32))), .unset, .unset, .unset, .unset, .unset, .unset, .unset, .unset, .unset, .unset, .unset, .unset] [(.int (p1 &&& (2147483647 : Int32)))])) _
    refine XS.iconst X0.here hx rfl (hb hby at_10) ?_
    show Steps p.tables e below (s₁.setTop (mkF m 11 #[.val (.int p1), .val (.int p2), .val (.long q3), .second, .val (.long q4), .second, .val (.int (p2 &&& (2147483647 : Int32))), .unset, .unset, .unset, .unset, .unset, .unset, .unset, .unset, .unset, .unset, .unset, .unset] [(.int (3 : Int32)), (.int (p1 &&& (2147483647 : Int32)))])) _
    refine iremM X0 hx rfl (hb hby at_11) rfl (by decide) ?_
    show Steps p.tables e below (s₁.setTop (mkF m 12 #[.val (.int p1), .val (.int p2), .val (.long q3), .second, .val (.long q4), .second, .val (.int (p2 &&& (2147483647 : Int32))), .unset, .unset, .unset, .unset, .unset, .unset, .unset, .unset, .unset, .unset, .unset, .unset] [(.int ((p1 &&& (2147483647 : Int32)) % (3 : Int32)))])) _
    rw [hk]
    show Steps p.tables e below (s₁.setTop (mkF m 12 #[.val (.int p1), .val (.int p2), .val (.long q3), .second, .val (.long q4), .second, .val (.int (p2 &&& (2147483647 : Int32))), .unset, .unset, .unset, .unset, .unset, .unset, .unset, .unset, .unset, .unset, .unset, .unset] [(.int (1 : Int32))])) _
    refine XS.istore X0.here hx rfl (hb hby at_12) rfl (l' := #[.val (.int p1), .val (.int p2), .val (.long q3), .second, .val (.long q4), .second, .val (.int (p2 &&& (2147483647 : Int32))), .val (.int (1 : Int32)), .unset, .unset, .unset, .unset, .unset, .unset, .unset, .unset, .unset, .unset, .unset]) rfl ?_
    show Steps p.tables e below (s₁.setTop (mkF m 14 #[.val (.int p1), .val (.int p2), .val (.long q3), .second, .val (.long q4), .second, .val (.int (p2 &&& (2147483647 : Int32))), .val (.int (1 : Int32)), .unset, .unset, .unset, .unset, .unset, .unset, .unset, .unset, .unset, .unset, .unset] [])) _
    refine XS.lloadN X0.here hx rfl (hb hby at_14) rfl ?_
    show Steps p.tables e below (s₁.setTop (mkF m 15 #[.val (.int p1), .val (.int p2), .val (.long q3), .second, .val (.long q4), .second, .val (.int (p2 &&& (2147483647 : Int32))), .val (.int (1 : Int32)), .unset, .unset, .unset, .unset, .unset, .unset, .unset, .unset, .unset, .unset, .unset] [(.long q3)])) _
    refine XS.lstore X0.here hx rfl (hb hby at_15) rfl (l' := #[.val (.int p1), .val (.int p2), .val (.long q3), .second, .val (.long q4), .second, .val (.int (p2 &&& (2147483647 : Int32))), .val (.int (1 : Int32)), .val (.long q3), .second, .unset, .unset, .unset, .unset, .unset, .unset, .unset, .unset, .unset]) rfl ?_
    show Steps p.tables e below (s₁.setTop (mkF m 17 #[.val (.int p1), .val (.int p2), .val (.long q3), .second, .val (.long q4), .second, .val (.int (p2 &&& (2147483647 : Int32))), .val (.int (1 : Int32)), .val (.long q3), .second, .unset, .unset, .unset, .unset, .unset, .unset, .unset, .unset, .unset] [])) _
    refine XS.iload X0.here hx rfl (hb hby at_17) rfl ?_
    show Steps p.tables e below (s₁.setTop (mkF m 19 #[.val (.int p1), .val (.int p2), .val (.long q3), .second, .val (.long q4), .second, .val (.int (p2 &&& (2147483647 : Int32))), .val (.int (1 : Int32)), .val (.long q3), .second, .unset, .unset, .unset, .unset, .unset, .unset, .unset, .unset, .unset] [(.int (1 : Int32))])) _
    refine XS.ifYes X0.here hx rfl (pc0 := 19) (pc' := 36) rfl (hb hby at_19) rfl ((if0 _ _).trans (feq ((by decide) : ¬ ((1 : Int32) = (0 : Int32)))).2) (by decide) (by decide) ?_
    show Steps p.tables e below (s₁.setTop (mkF m 36 #[.val (.int p1), .val (.int p2), .val (.long q3), .second, .val (.long q4), .second, .val (.int (p2 &&& (2147483647 : Int32))), .val (.int (1 : Int32)), .val (.long q3), .second, .unset, .unset, .unset, .unset, .unset, .unset, .unset, .unset, .unset] [])) _
    refine XS.iload X0.here hx rfl (hb hby at_36) rfl ?_
    show Steps p.tables e below (s₁.setTop (mkF m 38 #[.val (.int p1), .val (.int p2), .val (.long q3), .second, .val (.long q4), .second, .val (.int (p2 &&& (2147483647 : Int32))), .val (.int (1 : Int32)), .val (.long q3), .second, .unset, .unset, .unset, .unset, .unset, .unset, .unset, .unset, .unset] [(.int (1 : Int32))])) _
    refine XS.iconst X0.here hx rfl (hb hby at_38) ?_
    show Steps p.tables e below (s₁.setTop (mkF m 39 #[.val (.int p1), .val (.int p2), .val (.long q3), .second, .val (.long q4), .second, .val (.int (p2 &&& (2147483647 : Int32))), .val (.int (1 : Int32)), .val (.long q3), .second, .unset, .unset, .unset, .unset, .unset, .unset, .unset, .unset, .unset] [(.int (1 : Int32)), (.int (1 : Int32))])) _
    refine XS.icmpNo X0.here hx rfl (hb hby at_39) rfl (teq ((by decide) : (1 : Int32) = (1 : Int32))).2 ?_
    show Steps p.tables e below (s₁.setTop (mkF m 42 #[.val (.int p1), .val (.int p2), .val (.long q3), .second, .val (.long q4), .second, .val (.int (p2 &&& (2147483647 : Int32))), .val (.int (1 : Int32)), .val (.long q3), .second, .unset, .unset, .unset, .unset, .unset, .unset, .unset, .unset, .unset] [])) _
    refine XS.lconst X0.here hx rfl (hb hby at_42) ?_
    show Steps p.tables e below (s₁.setTop (mkF m 43 #[.val (.int p1), .val (.int p2), .val (.long q3), .second, .val (.long q4), .second, .val (.int (p2 &&& (2147483647 : Int32))), .val (.int (1 : Int32)), .val (.long q3), .second, .unset, .unset, .unset, .unset, .unset, .unset, .unset, .unset, .unset] [(.long (0 : Int64))])) _
    refine XS.lstore X0.here hx rfl (hb hby at_43) rfl (l' := #[.val (.int p1), .val (.int p2), .val (.long q3), .second, .val (.long q4), .second, .val (.int (p2 &&& (2147483647 : Int32))), .val (.int (1 : Int32)), .val (.long q3), .second, .val (.long (0 : Int64)), .second, .unset, .unset, .unset, .unset, .unset, .unset, .unset]) rfl ?_
    show Steps p.tables e below (s₁.setTop (mkF m 45 #[.val (.int p1), .val (.int p2), .val (.long q3), .second, .val (.long q4), .second, .val (.int (p2 &&& (2147483647 : Int32))), .val (.int (1 : Int32)), .val (.long q3), .second, .val (.long (0 : Int64)), .second, .unset, .unset, .unset, .unset, .unset, .unset, .unset] [])) _
    refine XS.lload X0.here hx rfl (hb hby at_45) rfl ?_
    show Steps p.tables e below (s₁.setTop (mkF m 47 #[.val (.int p1), .val (.int p2), .val (.long q3), .second, .val (.long q4), .second, .val (.int (p2 &&& (2147483647 : Int32))), .val (.int (1 : Int32)), .val (.long q3), .second, .val (.long (0 : Int64)), .second, .unset, .unset, .unset, .unset, .unset, .unset, .unset] [(.long q3)])) _
    refine XS.lconst X0.here hx rfl (hb hby at_47) ?_
    show Steps p.tables e below (s₁.setTop (mkF m 48 #[.val (.int p1), .val (.int p2), .val (.long q3), .second, .val (.long q4), .second, .val (.int (p2 &&& (2147483647 : Int32))), .val (.int (1 : Int32)), .val (.long q3), .second, .val (.long (0 : Int64)), .second, .unset, .unset, .unset, .unset, .unset, .unset, .unset] [(.long (0 : Int64)), (.long q3)])) _
    refine XS.lcmp X0.here hx rfl (hb hby at_48) rfl ?_
    show Steps p.tables e below (s₁.setTop (mkF m 49 #[.val (.int p1), .val (.int p2), .val (.long q3), .second, .val (.long q4), .second, .val (.int (p2 &&& (2147483647 : Int32))), .val (.int (1 : Int32)), .val (.long q3), .second, .val (.long (0 : Int64)), .second, .unset, .unset, .unset, .unset, .unset, .unset, .unset] [(.int (lcmpW q3 (0 : Int64)))])) _
    refine XS.ifYes X0.here hx rfl (pc0 := 49) (pc' := 56) rfl (hb hby at_49) rfl ((if0 _ _).trans (tlt (xs : (lcmpW q3 (0 : Int64)) < (0 : Int32))).1) (by decide) (by decide) ?_
    show Steps p.tables e below (s₁.setTop (mkF m 56 #[.val (.int p1), .val (.int p2), .val (.long q3), .second, .val (.long q4), .second, .val (.int (p2 &&& (2147483647 : Int32))), .val (.int (1 : Int32)), .val (.long q3), .second, .val (.long (0 : Int64)), .second, .unset, .unset, .unset, .unset, .unset, .unset, .unset] [])) _
    refine XS.iconst X0.here hx rfl (hb hby at_56) ?_
    show Steps p.tables e below (s₁.setTop (mkF m 57 #[.val (.int p1), .val (.int p2), .val (.long q3), .second, .val (.long q4), .second, .val (.int (p2 &&& (2147483647 : Int32))), .val (.int (1 : Int32)), .val (.long q3), .second, .val (.long (0 : Int64)), .second, .unset, .unset, .unset, .unset, .unset, .unset, .unset] [(.int (0 : Int32))])) _
    refine XS.istore X0.here hx rfl (hb hby at_57) rfl (l' := #[.val (.int p1), .val (.int p2), .val (.long q3), .second, .val (.long q4), .second, .val (.int (p2 &&& (2147483647 : Int32))), .val (.int (1 : Int32)), .val (.long q3), .second, .val (.long (0 : Int64)), .second, .val (.int (0 : Int32)), .unset, .unset, .unset, .unset, .unset, .unset]) rfl ?_
    show Steps p.tables e below (s₁.setTop (mkF m 59 #[.val (.int p1), .val (.int p2), .val (.long q3), .second, .val (.long q4), .second, .val (.int (p2 &&& (2147483647 : Int32))), .val (.int (1 : Int32)), .val (.long q3), .second, .val (.long (0 : Int64)), .second, .val (.int (0 : Int32)), .unset, .unset, .unset, .unset, .unset, .unset] [])) _
    refine XS.iconst X0.here hx rfl (hb hby at_59) ?_
    show Steps p.tables e below (s₁.setTop (mkF m 60 #[.val (.int p1), .val (.int p2), .val (.long q3), .second, .val (.long q4), .second, .val (.int (p2 &&& (2147483647 : Int32))), .val (.int (1 : Int32)), .val (.long q3), .second, .val (.long (0 : Int64)), .second, .val (.int (0 : Int32)), .unset, .unset, .unset, .unset, .unset, .unset] [(.int (1 : Int32))])) _
    refine XS.istore X0.here hx rfl (hb hby at_60) rfl (l' := #[.val (.int p1), .val (.int p2), .val (.long q3), .second, .val (.long q4), .second, .val (.int (p2 &&& (2147483647 : Int32))), .val (.int (1 : Int32)), .val (.long q3), .second, .val (.long (0 : Int64)), .second, .val (.int (0 : Int32)), .val (.int (1 : Int32)), .unset, .unset, .unset, .unset, .unset]) rfl ?_
    show Steps p.tables e below (s₁.setTop (mkF m 62 #[.val (.int p1), .val (.int p2), .val (.long q3), .second, .val (.long q4), .second, .val (.int (p2 &&& (2147483647 : Int32))), .val (.int (1 : Int32)), .val (.long q3), .second, .val (.long (0 : Int64)), .second, .val (.int (0 : Int32)), .val (.int (1 : Int32)), .unset, .unset, .unset, .unset, .unset] [])) _
    refine XS.goto X0.here hx rfl (pc0 := 62) (pc' := 94) rfl (hb hby at_62) (by decide) (by decide) ?_
    show Steps p.tables e below (s₁.setTop (mkF m 94 #[.val (.int p1), .val (.int p2), .val (.long q3), .second, .val (.long q4), .second, .val (.int (p2 &&& (2147483647 : Int32))), .val (.int (1 : Int32)), .val (.long q3), .second, .val (.long (0 : Int64)), .second, .val (.int (0 : Int32)), .val (.int (1 : Int32)), .unset, .unset, .unset, .unset, .unset] [])) _
    refine st1 _ ?_
    show Steps p.tables e below (T1.setTop (mkF m 97 #[.val (.int p1), .val (.int p2), .val (.long q3), .second, .val (.long q4), .second, .val (.int (p2 &&& (2147483647 : Int32))), .val (.int (1 : Int32)), .val (.long q3), .second, .val (.long (0 : Int64)), .second, .val (.int (0 : Int32)), .val (.int (1 : Int32)), .unset, .unset, .unset, .unset, .unset] [(.ref b1)])) _
    refine XS.dup X1.here hx rfl (hb hby at_97) rfl rfl ?_
    show Steps p.tables e below (T1.setTop (mkF m 98 #[.val (.int p1), .val (.int p2), .val (.long q3), .second, .val (.long q4), .second, .val (.int (p2 &&& (2147483647 : Int32))), .val (.int (1 : Int32)), .val (.long q3), .second, .val (.long (0 : Int64)), .second, .val (.int (0 : Int32)), .val (.int (1 : Int32)), .unset, .unset, .unset, .unset, .unset] [(.ref b1), (.ref b1)])) _
    refine XS.lload X1.here hx rfl (hb hby at_98) rfl ?_
    show Steps p.tables e below (T1.setTop (mkF m 100 #[.val (.int p1), .val (.int p2), .val (.long q3), .second, .val (.long q4), .second, .val (.int (p2 &&& (2147483647 : Int32))), .val (.int (1 : Int32)), .val (.long q3), .second, .val (.long (0 : Int64)), .second, .val (.int (0 : Int32)), .val (.int (1 : Int32)), .unset, .unset, .unset, .unset, .unset] [(.long (0 : Int64)), (.ref b1), (.ref b1)])) _
    refine XS.iload X1.here hx rfl (hb hby at_100) rfl ?_
    show Steps p.tables e below (T1.setTop (mkF m 102 #[.val (.int p1), .val (.int p2), .val (.long q3), .second, .val (.long q4), .second, .val (.int (p2 &&& (2147483647 : Int32))), .val (.int (1 : Int32)), .val (.long q3), .second, .val (.long (0 : Int64)), .second, .val (.int (0 : Int32)), .val (.int (1 : Int32)), .unset, .unset, .unset, .unset, .unset] [(.int (p2 &&& (2147483647 : Int32))), (.long (0 : Int64)), (.ref b1), (.ref b1)])) _
    refine XS.lload X1.here hx rfl (hb hby at_102) rfl ?_
    show Steps p.tables e below (T1.setTop (mkF m 104 #[.val (.int p1), .val (.int p2), .val (.long q3), .second, .val (.long q4), .second, .val (.int (p2 &&& (2147483647 : Int32))), .val (.int (1 : Int32)), .val (.long q3), .second, .val (.long (0 : Int64)), .second, .val (.int (0 : Int32)), .val (.int (1 : Int32)), .unset, .unset, .unset, .unset, .unset] [(.long q3), (.int (p2 &&& (2147483647 : Int32))), (.long (0 : Int64)), (.ref b1), (.ref b1)])) _
    refine st2.trans ?_
    show Steps p.tables e below (T2.setTop (mkF m 107 #[.val (.int p1), .val (.int p2), .val (.long q3), .second, .val (.long q4), .second, .val (.int (p2 &&& (2147483647 : Int32))), .val (.int (1 : Int32)), .val (.long q3), .second, .val (.long (0 : Int64)), .second, .val (.int (0 : Int32)), .val (.int (1 : Int32)), .unset, .unset, .unset, .unset, .unset] [(.ref b1)])) _
    refine XS.astore X2.here hx rfl (hb hby at_107) rfl rfl (l' := #[.val (.int p1), .val (.int p2), .val (.long q3), .second, .val (.long q4), .second, .val (.int (p2 &&& (2147483647 : Int32))), .val (.int (1 : Int32)), .val (.long q3), .second, .val (.long (0 : Int64)), .second, .val (.int (0 : Int32)), .val (.int (1 : Int32)), .val (.ref b1), .unset, .unset, .unset, .unset]) rfl ?_
    show Steps p.tables e below (T2.setTop (mkF m 109 #[.val (.int p1), .val (.int p2), .val (.long q3), .second, .val (.long q4), .second, .val (.int (p2 &&& (2147483647 : Int32))), .val (.int (1 : Int32)), .val (.long q3), .second, .val (.long (0 : Int64)), .second, .val (.int (0 : Int32)), .val (.int (1 : Int32)), .val (.ref b1), .unset, .unset, .unset, .unset] [])) _
    refine XS.aload X2.here hx rfl (hb hby at_109) rfl rfl ?_
    show Steps p.tables e below (T2.setTop (mkF m 111 #[.val (.int p1), .val (.int p2), .val (.long q3), .second, .val (.long q4), .second, .val (.int (p2 &&& (2147483647 : Int32))), .val (.int (1 : Int32)), .val (.long q3), .second, .val (.long (0 : Int64)), .second, .val (.int (0 : Int32)), .val (.int (1 : Int32)), .val (.ref b1), .unset, .unset, .unset, .unset] [(.ref b1)])) _
    refine st3.trans ?_
    show Steps p.tables e below (T3.setTop (mkF m 114 #[.val (.int p1), .val (.int p2), .val (.long q3), .second, .val (.long q4), .second, .val (.int (p2 &&& (2147483647 : Int32))), .val (.int (1 : Int32)), .val (.long q3), .second, .val (.long (0 : Int64)), .second, .val (.int (0 : Int32)), .val (.int (1 : Int32)), .val (.ref b1), .unset, .unset, .unset, .unset] [(.int (1 : Int32))])) _
    refine XS.istore X3.here hx rfl (hb hby at_114) rfl (l' := #[.val (.int p1), .val (.int p2), .val (.long q3), .second, .val (.long q4), .second, .val (.int (p2 &&& (2147483647 : Int32))), .val (.int (1 : Int32)), .val (.long q3), .second, .val (.long (0 : Int64)), .second, .val (.int (0 : Int32)), .val (.int (1 : Int32)), .val (.ref b1), .val (.int (1 : Int32)), .unset, .unset, .unset]) rfl ?_
    show Steps p.tables e below (T3.setTop (mkF m 116 #[.val (.int p1), .val (.int p2), .val (.long q3), .second, .val (.long q4), .second, .val (.int (p2 &&& (2147483647 : Int32))), .val (.int (1 : Int32)), .val (.long q3), .second, .val (.long (0 : Int64)), .second, .val (.int (0 : Int32)), .val (.int (1 : Int32)), .val (.ref b1), .val (.int (1 : Int32)), .unset, .unset, .unset] [])) _
    refine XS.aload X3.here hx rfl (hb hby at_116) rfl rfl ?_
    show Steps p.tables e below (T3.setTop (mkF m 118 #[.val (.int p1), .val (.int p2), .val (.long q3), .second, .val (.long q4), .second, .val (.int (p2 &&& (2147483647 : Int32))), .val (.int (1 : Int32)), .val (.long q3), .second, .val (.long (0 : Int64)), .second, .val (.int (0 : Int32)), .val (.int (1 : Int32)), .val (.ref b1), .val (.int (1 : Int32)), .unset, .unset, .unset] [(.ref b1)])) _
    refine st4.trans ?_
    show Steps p.tables e below (T4.setTop (mkF m 121 #[.val (.int p1), .val (.int p2), .val (.long q3), .second, .val (.long q4), .second, .val (.int (p2 &&& (2147483647 : Int32))), .val (.int (1 : Int32)), .val (.long q3), .second, .val (.long (0 : Int64)), .second, .val (.int (0 : Int32)), .val (.int (1 : Int32)), .val (.ref b1), .val (.int (1 : Int32)), .unset, .unset, .unset] [(.int (0 : Int32))])) _
    refine XS.istore X4.here hx rfl (hb hby at_121) rfl (l' := #[.val (.int p1), .val (.int p2), .val (.long q3), .second, .val (.long q4), .second, .val (.int (p2 &&& (2147483647 : Int32))), .val (.int (1 : Int32)), .val (.long q3), .second, .val (.long (0 : Int64)), .second, .val (.int (0 : Int32)), .val (.int (1 : Int32)), .val (.ref b1), .val (.int (1 : Int32)), .val (.int (0 : Int32)), .unset, .unset]) rfl ?_
    show Steps p.tables e below (T4.setTop (mkF m 123 #[.val (.int p1), .val (.int p2), .val (.long q3), .second, .val (.long q4), .second, .val (.int (p2 &&& (2147483647 : Int32))), .val (.int (1 : Int32)), .val (.long q3), .second, .val (.long (0 : Int64)), .second, .val (.int (0 : Int32)), .val (.int (1 : Int32)), .val (.ref b1), .val (.int (1 : Int32)), .val (.int (0 : Int32)), .unset, .unset] [])) _
    refine XS.aload X4.here hx rfl (hb hby at_123) rfl rfl ?_
    show Steps p.tables e below (T4.setTop (mkF m 125 #[.val (.int p1), .val (.int p2), .val (.long q3), .second, .val (.long q4), .second, .val (.int (p2 &&& (2147483647 : Int32))), .val (.int (1 : Int32)), .val (.long q3), .second, .val (.long (0 : Int64)), .second, .val (.int (0 : Int32)), .val (.int (1 : Int32)), .val (.ref b1), .val (.int (1 : Int32)), .val (.int (0 : Int32)), .unset, .unset] [(.ref b1)])) _
    refine st5.trans ?_
    show Steps p.tables e below (T5.setTop (mkF m 128 #[.val (.int p1), .val (.int p2), .val (.long q3), .second, .val (.long q4), .second, .val (.int (p2 &&& (2147483647 : Int32))), .val (.int (1 : Int32)), .val (.long q3), .second, .val (.long (0 : Int64)), .second, .val (.int (0 : Int32)), .val (.int (1 : Int32)), .val (.ref b1), .val (.int (1 : Int32)), .val (.int (0 : Int32)), .unset, .unset] [])) _
    refine XS.aload X5.here hx rfl (hb hby at_128) rfl rfl ?_
    show Steps p.tables e below (T5.setTop (mkF m 130 #[.val (.int p1), .val (.int p2), .val (.long q3), .second, .val (.long q4), .second, .val (.int (p2 &&& (2147483647 : Int32))), .val (.int (1 : Int32)), .val (.long q3), .second, .val (.long (0 : Int64)), .second, .val (.int (0 : Int32)), .val (.int (1 : Int32)), .val (.ref b1), .val (.int (1 : Int32)), .val (.int (0 : Int32)), .unset, .unset] [(.ref b1)])) _
    refine st6.trans ?_
    show Steps p.tables e below (T6.setTop (mkF m 133 #[.val (.int p1), .val (.int p2), .val (.long q3), .second, .val (.long q4), .second, .val (.int (p2 &&& (2147483647 : Int32))), .val (.int (1 : Int32)), .val (.long q3), .second, .val (.long (0 : Int64)), .second, .val (.int (0 : Int32)), .val (.int (1 : Int32)), .val (.ref b1), .val (.int (1 : Int32)), .val (.int (0 : Int32)), .unset, .unset] [(.int (1 : Int32))])) _
    refine XS.istore X6.here hx rfl (hb hby at_133) rfl (l' := #[.val (.int p1), .val (.int p2), .val (.long q3), .second, .val (.long q4), .second, .val (.int (p2 &&& (2147483647 : Int32))), .val (.int (1 : Int32)), .val (.long q3), .second, .val (.long (0 : Int64)), .second, .val (.int (0 : Int32)), .val (.int (1 : Int32)), .val (.ref b1), .val (.int (1 : Int32)), .val (.int (0 : Int32)), .val (.int (1 : Int32)), .unset]) rfl ?_
    show Steps p.tables e below (T6.setTop (mkF m 135 #[.val (.int p1), .val (.int p2), .val (.long q3), .second, .val (.long q4), .second, .val (.int (p2 &&& (2147483647 : Int32))), .val (.int (1 : Int32)), .val (.long q3), .second, .val (.long (0 : Int64)), .second, .val (.int (0 : Int32)), .val (.int (1 : Int32)), .val (.ref b1), .val (.int (1 : Int32)), .val (.int (0 : Int32)), .val (.int (1 : Int32)), .unset] [])) _
    refine XS.aload X6.here hx rfl (hb hby at_135) rfl rfl ?_
    show Steps p.tables e below (T6.setTop (mkF m 137 #[.val (.int p1), .val (.int p2), .val (.long q3), .second, .val (.long q4), .second, .val (.int (p2 &&& (2147483647 : Int32))), .val (.int (1 : Int32)), .val (.long q3), .second, .val (.long (0 : Int64)), .second, .val (.int (0 : Int32)), .val (.int (1 : Int32)), .val (.ref b1), .val (.int (1 : Int32)), .val (.int (0 : Int32)), .val (.int (1 : Int32)), .unset] [(.ref b1)])) _
    refine st7.trans ?_
    show Steps p.tables e below (T7.setTop (mkF m 140 #[.val (.int p1), .val (.int p2), .val (.long q3), .second, .val (.long q4), .second, .val (.int (p2 &&& (2147483647 : Int32))), .val (.int (1 : Int32)), .val (.long q3), .second, .val (.long (0 : Int64)), .second, .val (.int (0 : Int32)), .val (.int (1 : Int32)), .val (.ref b1), .val (.int (1 : Int32)), .val (.int (0 : Int32)), .val (.int (1 : Int32)), .unset] [])) _
    refine XS.aload X7.here hx rfl (hb hby at_140) rfl rfl ?_
    show Steps p.tables e below (T7.setTop (mkF m 142 #[.val (.int p1), .val (.int p2), .val (.long q3), .second, .val (.long q4), .second, .val (.int (p2 &&& (2147483647 : Int32))), .val (.int (1 : Int32)), .val (.long q3), .second, .val (.long (0 : Int64)), .second, .val (.int (0 : Int32)), .val (.int (1 : Int32)), .val (.ref b1), .val (.int (1 : Int32)), .val (.int (0 : Int32)), .val (.int (1 : Int32)), .unset] [(.ref b1)])) _
    refine st8.trans ?_
    show Steps p.tables e below (T8.setTop (mkF m 145 #[.val (.int p1), .val (.int p2), .val (.long q3), .second, .val (.long q4), .second, .val (.int (p2 &&& (2147483647 : Int32))), .val (.int (1 : Int32)), .val (.long q3), .second, .val (.long (0 : Int64)), .second, .val (.int (0 : Int32)), .val (.int (1 : Int32)), .val (.ref b1), .val (.int (1 : Int32)), .val (.int (0 : Int32)), .val (.int (1 : Int32)), .unset] [(.int (1 : Int32))])) _
    refine XS.istore X8.here hx rfl (hb hby at_145) rfl (l' := #[.val (.int p1), .val (.int p2), .val (.long q3), .second, .val (.long q4), .second, .val (.int (p2 &&& (2147483647 : Int32))), .val (.int (1 : Int32)), .val (.long q3), .second, .val (.long (0 : Int64)), .second, .val (.int (0 : Int32)), .val (.int (1 : Int32)), .val (.ref b1), .val (.int (1 : Int32)), .val (.int (0 : Int32)), .val (.int (1 : Int32)), .val (.int (1 : Int32))]) rfl ?_
    show Steps p.tables e below (T8.setTop (mkF m 147 #[.val (.int p1), .val (.int p2), .val (.long q3), .second, .val (.long q4), .second, .val (.int (p2 &&& (2147483647 : Int32))), .val (.int (1 : Int32)), .val (.long q3), .second, .val (.long (0 : Int64)), .second, .val (.int (0 : Int32)), .val (.int (1 : Int32)), .val (.ref b1), .val (.int (1 : Int32)), .val (.int (0 : Int32)), .val (.int (1 : Int32)), .val (.int (1 : Int32))] [])) _
    refine XS.iload X8.here hx rfl (hb hby at_147) rfl ?_
    show Steps p.tables e below (T8.setTop (mkF m 149 #[.val (.int p1), .val (.int p2), .val (.long q3), .second, .val (.long q4), .second, .val (.int (p2 &&& (2147483647 : Int32))), .val (.int (1 : Int32)), .val (.long q3), .second, .val (.long (0 : Int64)), .second, .val (.int (0 : Int32)), .val (.int (1 : Int32)), .val (.ref b1), .val (.int (1 : Int32)), .val (.int (0 : Int32)), .val (.int (1 : Int32)), .val (.int (1 : Int32))] [(.int (1 : Int32))])) _
    refine XS.iload X8.here hx rfl (hb hby at_149) rfl ?_
    show Steps p.tables e below (T8.setTop (mkF m 151 #[.val (.int p1), .val (.int p2), .val (.long q3), .second, .val (.long q4), .second, .val (.int (p2 &&& (2147483647 : Int32))), .val (.int (1 : Int32)), .val (.long q3), .second, .val (.long (0 : Int64)), .second, .val (.int (0 : Int32)), .val (.int (1 : Int32)), .val (.ref b1), .val (.int (1 : Int32)), .val (.int (0 : Int32)), .val (.int (1 : Int32)), .val (.int (1 : Int32))] [(.int (1 : Int32)), (.int (1 : Int32))])) _
    refine XS.icmpNo X8.here hx rfl (hb hby at_151) rfl (teq ((by decide) : (1 : Int32) = (1 : Int32))).2 ?_
    show Steps p.tables e below (T8.setTop (mkF m 154 #[.val (.int p1), .val (.int p2), .val (.long q3), .second, .val (.long q4), .second, .val (.int (p2 &&& (2147483647 : Int32))), .val (.int (1 : Int32)), .val (.long q3), .second, .val (.long (0 : Int64)), .second, .val (.int (0 : Int32)), .val (.int (1 : Int32)), .val (.ref b1), .val (.int (1 : Int32)), .val (.int (0 : Int32)), .val (.int (1 : Int32)), .val (.int (1 : Int32))] [])) _
    refine XS.iload X8.here hx rfl (hb hby at_154) rfl ?_
    show Steps p.tables e below (T8.setTop (mkF m 156 #[.val (.int p1), .val (.int p2), .val (.long q3), .second, .val (.long q4), .second, .val (.int (p2 &&& (2147483647 : Int32))), .val (.int (1 : Int32)), .val (.long q3), .second, .val (.long (0 : Int64)), .second, .val (.int (0 : Int32)), .val (.int (1 : Int32)), .val (.ref b1), .val (.int (1 : Int32)), .val (.int (0 : Int32)), .val (.int (1 : Int32)), .val (.int (1 : Int32))] [(.int (0 : Int32))])) _
    refine XS.iload X8.here hx rfl (hb hby at_156) rfl ?_
    show Steps p.tables e below (T8.setTop (mkF m 158 #[.val (.int p1), .val (.int p2), .val (.long q3), .second, .val (.long q4), .second, .val (.int (p2 &&& (2147483647 : Int32))), .val (.int (1 : Int32)), .val (.long q3), .second, .val (.long (0 : Int64)), .second, .val (.int (0 : Int32)), .val (.int (1 : Int32)), .val (.ref b1), .val (.int (1 : Int32)), .val (.int (0 : Int32)), .val (.int (1 : Int32)), .val (.int (1 : Int32))] [(.int (0 : Int32)), (.int (0 : Int32))])) _
    refine XS.icmpNo X8.here hx rfl (hb hby at_158) rfl (teq ((by decide) : (0 : Int32) = (0 : Int32))).2 ?_
    show Steps p.tables e below (T8.setTop (mkF m 161 #[.val (.int p1), .val (.int p2), .val (.long q3), .second, .val (.long q4), .second, .val (.int (p2 &&& (2147483647 : Int32))), .val (.int (1 : Int32)), .val (.long q3), .second, .val (.long (0 : Int64)), .second, .val (.int (0 : Int32)), .val (.int (1 : Int32)), .val (.ref b1), .val (.int (1 : Int32)), .val (.int (0 : Int32)), .val (.int (1 : Int32)), .val (.int (1 : Int32))] [])) _
    refine XS.iload X8.here hx rfl (hb hby at_161) rfl ?_
    show Steps p.tables e below (T8.setTop (mkF m 163 #[.val (.int p1), .val (.int p2), .val (.long q3), .second, .val (.long q4), .second, .val (.int (p2 &&& (2147483647 : Int32))), .val (.int (1 : Int32)), .val (.long q3), .second, .val (.long (0 : Int64)), .second, .val (.int (0 : Int32)), .val (.int (1 : Int32)), .val (.ref b1), .val (.int (1 : Int32)), .val (.int (0 : Int32)), .val (.int (1 : Int32)), .val (.int (1 : Int32))] [(.int (1 : Int32))])) _
    refine XS.ifNo X8.here hx rfl (hb hby at_163) rfl ((if0 _ _).trans (feq ((by decide) : ¬ ((1 : Int32) = (0 : Int32)))).1) ?_
    show Steps p.tables e below (T8.setTop (mkF m 166 #[.val (.int p1), .val (.int p2), .val (.long q3), .second, .val (.long q4), .second, .val (.int (p2 &&& (2147483647 : Int32))), .val (.int (1 : Int32)), .val (.long q3), .second, .val (.long (0 : Int64)), .second, .val (.int (0 : Int32)), .val (.int (1 : Int32)), .val (.ref b1), .val (.int (1 : Int32)), .val (.int (0 : Int32)), .val (.int (1 : Int32)), .val (.int (1 : Int32))] [])) _
    refine XS.iload X8.here hx rfl (hb hby at_166) rfl ?_
    show Steps p.tables e below (T8.setTop (mkF m 168 #[.val (.int p1), .val (.int p2), .val (.long q3), .second, .val (.long q4), .second, .val (.int (p2 &&& (2147483647 : Int32))), .val (.int (1 : Int32)), .val (.long q3), .second, .val (.long (0 : Int64)), .second, .val (.int (0 : Int32)), .val (.int (1 : Int32)), .val (.ref b1), .val (.int (1 : Int32)), .val (.int (0 : Int32)), .val (.int (1 : Int32)), .val (.int (1 : Int32))] [(.int (1 : Int32))])) _
    refine XS.ifNo X8.here hx rfl (hb hby at_168) rfl ((if0 _ _).trans (feq ((by decide) : ¬ ((1 : Int32) = (0 : Int32)))).1) ?_
    show Steps p.tables e below (T8.setTop (mkF m 171 #[.val (.int p1), .val (.int p2), .val (.long q3), .second, .val (.long q4), .second, .val (.int (p2 &&& (2147483647 : Int32))), .val (.int (1 : Int32)), .val (.long q3), .second, .val (.long (0 : Int64)), .second, .val (.int (0 : Int32)), .val (.int (1 : Int32)), .val (.ref b1), .val (.int (1 : Int32)), .val (.int (0 : Int32)), .val (.int (1 : Int32)), .val (.int (1 : Int32))] [])) _
    refine XS.aload X8.here hx rfl (hb hby at_171) rfl rfl ?_
    show Steps p.tables e below (T8.setTop (mkF m 173 #[.val (.int p1), .val (.int p2), .val (.long q3), .second, .val (.long q4), .second, .val (.int (p2 &&& (2147483647 : Int32))), .val (.int (1 : Int32)), .val (.long q3), .second, .val (.long (0 : Int64)), .second, .val (.int (0 : Int32)), .val (.int (1 : Int32)), .val (.ref b1), .val (.int (1 : Int32)), .val (.int (0 : Int32)), .val (.int (1 : Int32)), .val (.int (1 : Int32))] [(.ref b1)])) _
    refine st9.trans ?_
    show Steps p.tables e below (T9.setTop (mkF m 176 #[.val (.int p1), .val (.int p2), .val (.long q3), .second, .val (.long q4), .second, .val (.int (p2 &&& (2147483647 : Int32))), .val (.int (1 : Int32)), .val (.long q3), .second, .val (.long (0 : Int64)), .second, .val (.int (0 : Int32)), .val (.int (1 : Int32)), .val (.ref b1), .val (.int (1 : Int32)), .val (.int (0 : Int32)), .val (.int (1 : Int32)), .val (.int (1 : Int32))] [(.int (0 : Int32))])) _
    refine XS.iload X9.here hx rfl (hb hby at_176) rfl ?_
    show Steps p.tables e below (T9.setTop (mkF m 178 #[.val (.int p1), .val (.int p2), .val (.long q3), .second, .val (.long q4), .second, .val (.int (p2 &&& (2147483647 : Int32))), .val (.int (1 : Int32)), .val (.long q3), .second, .val (.long (0 : Int64)), .second, .val (.int (0 : Int32)), .val (.int (1 : Int32)), .val (.ref b1), .val (.int (1 : Int32)), .val (.int (0 : Int32)), .val (.int (1 : Int32)), .val (.int (1 : Int32))] [(.int (0 : Int32)), (.int (0 : Int32))])) _
    refine XS.icmpNo X9.here hx rfl (hb hby at_178) rfl (teq ((by decide) : (0 : Int32) = (0 : Int32))).2 ?_
    show Steps p.tables e below (T9.setTop (mkF m 181 #[.val (.int p1), .val (.int p2), .val (.long q3), .second, .val (.long q4), .second, .val (.int (p2 &&& (2147483647 : Int32))), .val (.int (1 : Int32)), .val (.long q3), .second, .val (.long (0 : Int64)), .second, .val (.int (0 : Int32)), .val (.int (1 : Int32)), .val (.ref b1), .val (.int (1 : Int32)), .val (.int (0 : Int32)), .val (.int (1 : Int32)), .val (.int (1 : Int32))] [])) _
    refine XS.aload X9.here hx rfl (hb hby at_181) rfl rfl ?_
    show Steps p.tables e below (T9.setTop (mkF m 183 #[.val (.int p1), .val (.int p2), .val (.long q3), .second, .val (.long q4), .second, .val (.int (p2 &&& (2147483647 : Int32))), .val (.int (1 : Int32)), .val (.long q3), .second, .val (.long (0 : Int64)), .second, .val (.int (0 : Int32)), .val (.int (1 : Int32)), .val (.ref b1), .val (.int (1 : Int32)), .val (.int (0 : Int32)), .val (.int (1 : Int32)), .val (.int (1 : Int32))] [(.ref b1)])) _
    refine st10.trans ?_
    show Steps p.tables e below (T10.setTop (mkF m 186 #[.val (.int p1), .val (.int p2), .val (.long q3), .second, .val (.long q4), .second, .val (.int (p2 &&& (2147483647 : Int32))), .val (.int (1 : Int32)), .val (.long q3), .second, .val (.long (0 : Int64)), .second, .val (.int (0 : Int32)), .val (.int (1 : Int32)), .val (.ref b1), .val (.int (1 : Int32)), .val (.int (0 : Int32)), .val (.int (1 : Int32)), .val (.int (1 : Int32))] [(.ref b10)])) _
    refine X10.arraylength hx Ar11.1 (State.isArrayOf_alike hZ.alike Ar11.2.1) (g := (mkF m 186 #[.val (.int p1), .val (.int p2), .val (.long q3), .second, .val (.long q4), .second, .val (.int (p2 &&& (2147483647 : Int32))), .val (.int (1 : Int32)), .val (.long q3), .second, .val (.long (0 : Int64)), .second, .val (.int (0 : Int32)), .val (.int (1 : Int32)), .val (.ref b1), .val (.int (1 : Int32)), .val (.int (0 : Int32)), .val (.int (1 : Int32)), .val (.int (1 : Int32))] [(.ref b10)])) rfl rfl (hb hby at_186) _ ?_
    rw [len_of Sz11 Nz11]
    show Steps p.tables e below (T10.setTop (mkF m 187 #[.val (.int p1), .val (.int p2), .val (.long q3), .second, .val (.long q4), .second, .val (.int (p2 &&& (2147483647 : Int32))), .val (.int (1 : Int32)), .val (.long q3), .second, .val (.long (0 : Int64)), .second, .val (.int (0 : Int32)), .val (.int (1 : Int32)), .val (.ref b1), .val (.int (1 : Int32)), .val (.int (0 : Int32)), .val (.int (1 : Int32)), .val (.int (1 : Int32))] [(.int (0 : Int32))])) _
    refine XS.ifNo X10.here hx rfl (hb hby at_187) rfl ((if0 _ _).trans (teq ((by decide) : (0 : Int32) = (0 : Int32))).2) ?_
    show Steps p.tables e below (T10.setTop (mkF m 190 #[.val (.int p1), .val (.int p2), .val (.long q3), .second, .val (.long q4), .second, .val (.int (p2 &&& (2147483647 : Int32))), .val (.int (1 : Int32)), .val (.long q3), .second, .val (.long (0 : Int64)), .second, .val (.int (0 : Int32)), .val (.int (1 : Int32)), .val (.ref b1), .val (.int (1 : Int32)), .val (.int (0 : Int32)), .val (.int (1 : Int32)), .val (.int (1 : Int32))] [])) _
    refine XS.iconst X10.here hx rfl (hb hby at_190) ?_
    show Steps p.tables e below (T10.setTop (mkF m 191 #[.val (.int p1), .val (.int p2), .val (.long q3), .second, .val (.long q4), .second, .val (.int (p2 &&& (2147483647 : Int32))), .val (.int (1 : Int32)), .val (.long q3), .second, .val (.long (0 : Int64)), .second, .val (.int (0 : Int32)), .val (.int (1 : Int32)), .val (.ref b1), .val (.int (1 : Int32)), .val (.int (0 : Int32)), .val (.int (1 : Int32)), .val (.int (1 : Int32))] [(.int (1 : Int32))])) _
    refine XS.goto X10.here hx rfl (pc0 := 191) (pc' := 195) rfl (hb hby at_191) (by decide) (by decide) ?_
    show Steps p.tables e below (T10.setTop (mkF m 195 #[.val (.int p1), .val (.int p2), .val (.long q3), .second, .val (.long q4), .second, .val (.int (p2 &&& (2147483647 : Int32))), .val (.int (1 : Int32)), .val (.long q3), .second, .val (.long (0 : Int64)), .second, .val (.int (0 : Int32)), .val (.int (1 : Int32)), .val (.ref b1), .val (.int (1 : Int32)), .val (.int (0 : Int32)), .val (.int (1 : Int32)), .val (.int (1 : Int32))] [(.int (1 : Int32))])) _
    exact retN X10 hx (t := .boolean) Bd.returns (by simp) (hb hby at_195) hr
  · show Q0 n0 _ T10.heap _
    exact ⟨rfl, N10⟩
set_option maxRecDepth 65536 in
set_option maxHeartbeats 40000000 in
theorem rm0_2 (l : Launch) (Z : State) (a0 : Array Value) (hw : ∀ d ∈ tables_1, d.before a0 Z = true) (ws : List Jvm.Cond) {w_n2 : Addr} {w_n3 : Addr} {w_n4 : Addr} {w_n1 : Addr} {v_n0 : Int32} (W : Wd Z w_n2 w_n3 w_n4 w_n1 v_n0) (p1 : Int32) (p2 : Int32) (q3 : Int64) (q4 : Int64) (h0 : Heap) (n0 : Nat) (O0 : Old Z n0 h0) (hk : ((p1 &&& (2147483647 : Int32)) % (3 : Int32)) = (2 : Int32)) (xa : ¬ ((lcmpW (((q3 &&& (4611686018427387903 : Int64)) + (1 : Int64)) + (q4 &&& (4611686018427387903 : Int64))) (-1 : Int64)) = (0 : Int32))) (xb : ¬ ((lcmpW (((q3 &&& (4611686018427387903 : Int64)) + (1 : Int64)) + (q4 &&& (4611686018427387903 : Int64))) (-2 : Int64)) = (0 : Int32))) (xm : (0 : Int32) < (lcmpW (((q3 &&& (4611686018427387903 : Int64)) + (1 : Int64)) + (q4 &&& (4611686018427387903 : Int64))) (0 : Int64))) (xk : (0 : Int32) < (lcmpW ((0 : Int64) + ((((q3 &&& (4611686018427387903 : Int64)) + (1 : Int64)) + (q4 &&& (4611686018427387903 : Int64))) - (0 : Int64))) (q3 &&& (4611686018427387903 : Int64)))) :
    MetFree l x (head1 (Jvm.Cond.code x code maxLocals ret :: ws) room_1) (fun a U => a = #[(.int p1), (.int p2), (.long q3), (.long q4)] ∧ Z.Warmed39 U.vm ∧ U.heap = h0) (fun _ _ _ _ _ => True) (fun _ U o U' => ∃ v L, o = .returned v ∧ Q0 n0 v U'.heap L ∧ FrameEnd U o U' L room_1.cells room_1.slots) := by
  have W' := W; obtain ⟨S_n2, E_n2, S_n3, E_n3, S_n4, E_n4, S_n1, E_n1, S_n0, N_n0, F_n2_ordinal, F_n3_ordinal⟩ := W'
  refine MetFree.of_bodySF (plainFor_of_name pn_0) hisR ?_
  intro p e s m args below meth c s₁ Bd hml0 hP hK
  obtain ⟨rfl, hZ, hh⟩ := hP
  have hx := Bd.exec
  have hby := Bd.bytes
  have hml : c.maxLocals = 19 := hml0
  have hown : s.vm.findClass "com/example/tillwire/tillwire/BodyReaderEndPinLaw" = some m.cls := findClass_of_methodNamed Bd.named
  have hnm := (name_of_methodNamed Bd.named Bd.method).1
  have X0 : Stand p l e room_1 s m #[(.int p1), (.int p2), (.long q3), (.long q4)] below meth c s₁ [] 0 0 := Stand.of_body Bd
  have e0 : s₁.heap = h0 := by rw [← hh, Bd.state]; rfl
  have N0 := Fr.nil n0
  have pre0 : ∀ t, Steps p.tables e below (s₁.setTop (mkF m 0 #[.val (.int p1), .val (.int p2), .val (.long q3), .second, .val (.long q4), .second, .unset, .unset, .unset, .unset, .unset, .unset, .unset, .unset, .unset, .unset, .unset, .unset, .unset] [])) t → Steps p.tables e below (s₁.setTop (entryFrame m #[(.int p1), (.int p2), (.long q3), (.long q4)] maxLocals)) t := fun t k => castTop (ef_0_16 m p1 p2 q3 q4) k
  obtain ⟨T1, h1, X1, e1, E1, A1, D1, U1, st1⟩ := newO X0 hx hZ hown (hw _ (List.mem_of_getElem? (i := 2) rfl)) (hw _ (List.mem_of_getElem? (i := 3) rfl)) (hw _ (List.mem_of_getElem? (i := 4) rfl)) e0 (g := (mkF m 94 #[.val (.int p1), .val (.int p2), .val (.long q3), .second, .val (.long q4), .second, .val (.int (0 : Int32)), .val (.int (2 : Int32)), .val (.long (q3 &&& (4611686018427387903 : Int64))), .second, .val (.long (((q3 &&& (4611686018427387903 : Int64)) + (1 : Int64)) + (q4 &&& (4611686018427387903 : Int64)))), .second, .val (.int (0 : Int32)), .val (.int (1 : Int32)), .unset, .unset, .unset, .unset, .unset] [])) rfl (hb hby at_94) (by decide) (by decide)
  obtain ⟨b1, g1⟩ : ∃ z, z = h0.size := ⟨_, rfl⟩
  rw [← g1] at A1 D1 U1 st1
  have g_b1 : n0 ≤ b1 := by rw [g1]; exact O0.1 ▸ O0.2.1
  have O1 := O0.ext E1
  have f1_kept : Fld Z h1 b1 "com/example/tillwire/tillwire/HttpFraming$BodyReader" "kept" "Ljava/io/ByteArrayOutputStream;" .null := D1 (Or.inr (hw _ (List.mem_of_getElem? (i := 32) rfl))) (ty := (.object "java/io/ByteArrayOutputStream")) (by decide)
  have f1_line : Fld Z h1 b1 "com/example/tillwire/tillwire/HttpFraming$BodyReader" "line" "Lcom/example/tillwire/tillwire/HttpFraming$Line;" .null := D1 (Or.inr (hw _ (List.mem_of_getElem? (i := 62) rfl))) (ty := (.object "com/example/tillwire/tillwire/HttpFraming$Line")) (by decide)
  have f1_whole : Fld Z h1 b1 "com/example/tillwire/tillwire/HttpFraming$BodyReader" "whole" "Z" (.int (0 : Int32)) := D1 (Or.inl (hw _ (List.mem_of_getElem? (i := 64) rfl))) (ty := .boolean) (by decide)
  have f1_chunked : Fld Z h1 b1 "com/example/tillwire/tillwire/HttpFraming$BodyReader" "chunked" "Z" (.int (0 : Int32)) := D1 (Or.inr (hw _ (List.mem_of_getElem? (i := 67) rfl))) (ty := .boolean) (by decide)
  have f1_keep : Fld Z h1 b1 "com/example/tillwire/tillwire/HttpFraming$BodyReader" "keep" "I" (.int (0 : Int32)) := D1 (Or.inr (hw _ (List.mem_of_getElem? (i := 69) rfl))) (ty := .int) (by decide)
  have f1_skip : Fld Z h1 b1 "com/example/tillwire/tillwire/HttpFraming$BodyReader" "skip" "J" (.long (0 : Int64)) := D1 (Or.inr (hw _ (List.mem_of_getElem? (i := 71) rfl))) (ty := .long) (by decide)
  have f1_part : Fld Z h1 b1 "com/example/tillwire/tillwire/HttpFraming$BodyReader" "part" "Lcom/example/tillwire/tillwire/HttpFraming$BodyReader$Part;" .null := D1 (Or.inl (hw _ (List.mem_of_getElem? (i := 77) rfl))) (ty := (.object "com/example/tillwire/tillwire/HttpFraming$BodyReader$Part")) (by decide)
  have f1_passed : Fld Z h1 b1 "com/example/tillwire/tillwire/HttpFraming$BodyReader" "passed" "J" (.long (0 : Int64)) := D1 (Or.inl (hw _ (List.mem_of_getElem? (i := 123) rfl))) (ty := .long) (by decide)
  have f1_left : Fld Z h1 b1 "com/example/tillwire/tillwire/HttpFraming$BodyReader" "left" "J" (.long (0 : Int64)) := D1 (Or.inl (hw _ (List.mem_of_getElem? (i := 127) rfl))) (ty := .long) (by decide)
  have f1_skipped : Fld Z h1 b1 "com/example/tillwire/tillwire/HttpFraming$BodyReader" "skipped" "J" (.long (0 : Int64)) := D1 (Or.inl (hw _ (List.mem_of_getElem? (i := 133) rfl))) (ty := .long) (by decide)
  obtain ⟨_, _, ⟨T2, L2, k2, n2⟩, -, X2, ⟨Lc2, hQ2, l2, y2, z2⟩, st2⟩ := X1.specialBack hx (y := (⟨"com/example/tillwire/tillwire/HttpFraming$BodyReader", "<init>", "(JIJ)V"⟩ : MethodName)) rfl hown (mvT hZ (hw _ (List.mem_of_getElem? (i := 5) rfl))) (mvT hZ (hw _ (List.mem_of_getElem? (i := 6) rfl))) (mvT hZ (hw _ (List.mem_of_getElem? (i := 7) rfl))) (by decide) (backOf (W := 1) (rm_n2 l Z a0 hw [] W b1 (((q3 &&& (4611686018427387903 : Int64)) + (1 : Int64)) + (q4 &&& (4611686018427387903 : Int64))) (q3 &&& (4611686018427387903 : Int64)) h1 n0 O1 xa xb xm xk g_b1 A1 f1_kept f1_line f1_whole f1_chunked f1_keep f1_skip f1_part f1_passed f1_left f1_skipped) hZ (hw _ (List.mem_of_getElem? (i := 7) rfl)) (hw _ (List.mem_of_getElem? (i := 4) rfl)) (by decide) (by decide)) (g := (mkF m 104 #[.val (.int p1), .val (.int p2), .val (.long q3), .second, .val (.long q4), .second, .val (.int (0 : Int32)), .val (.int (2 : Int32)), .val (.long (q3 &&& (4611686018427387903 : Int64))), .second, .val (.long (((q3 &&& (4611686018427387903 : Int64)) + (1 : Int64)) + (q4 &&& (4611686018427387903 : Int64)))), .second, .val (.int (0 : Int32)), .val (.int (1 : Int32)), .unset, .unset, .unset, .unset, .unset] [(.long (q3 &&& (4611686018427387903 : Int64))), (.int (0 : Int32)), (.long (((q3 &&& (4611686018427387903 : Int64)) + (1 : Int64)) + (q4 &&& (4611686018427387903 : Int64)))), (.ref b1), (.ref b1)])) rfl (by rw [hml]; rfl) (Steps.refl _) (a := b1) (argsL := [(.long (((q3 &&& (4611686018427387903 : Int64)) + (1 : Int64)) + (q4 &&& (4611686018427387903 : Int64)))), (.int (0 : Int32)), (.long (q3 &&& (4611686018427387903 : Int64)))]) (rest := [(.ref b1)]) (lenOf pd_6 rfl) rfl (by show 2 * 0 + _ ≤ _; exact Nat.le_of_eq rfl) (hb hby at_104) (fun _ _ => ⟨rfl, e1, (by decide : 1 + 5 ≤ _), (by decide : 11 + 56 ≤ _)⟩)
  dsimp only [Pt.U, Pt.locs, Pt.cells, Pt.slots] at X2 l2 y2 z2 st2 hQ2
  subst l2 y2 z2
  obtain ⟨N2q, hP2⟩ := hQ2
  have N2 := Fr.app N0 N2q
  obtain ⟨b2_b2, b2_b3_b1_b2, k2_k3_k1_k2, rfl, Kp2, g_b2_b2, si_b2_b2, g_b2_b3_b1_b2, si_b2_b3_b1_b2, fp2_0, fp2_1, fp2_2, fp2_3, fp2_4, fp2_5, fp2_6, fp2_7, fp2_8, fp2_9⟩ := hP2
  have f2_0 : Exa Z T2.heap b1 "com/example/tillwire/tillwire/HttpFraming$BodyReader" := (A1).keep Kp2
  have O2 := O1.keep Kp2 (allS g_b1 all0)
  obtain ⟨cq3, kq3, q3a, q3b, q3c⟩ := isOf hZ rfl fp2_0
  obtain ⟨_, _, ⟨T3, L3, k3, n3⟩, -, X3, ⟨Lc3, hQ3, l3, y3, z3⟩, st3⟩ := X2.virtualBack hx (y := (⟨"com/example/tillwire/tillwire/HttpFraming$BodyReader", "done", "()Z"⟩ : MethodName)) (z := (⟨"com/example/tillwire/tillwire/HttpFraming$BodyReader", "done", "()Z"⟩ : MethodName)) hown (mvT hZ (hw _ (List.mem_of_getElem? (i := 78) rfl))) (mvT hZ (hw _ (List.mem_of_getElem? (i := 79) rfl))) (notFace_of_selects (args := #[]) (mvT hZ (hw _ (List.mem_of_getElem? (i := 81) rfl)))) (mvT hZ (hw _ (List.mem_of_getElem? (i := 81) rfl))) (mvT hZ (hw _ (List.mem_of_getElem? (i := 80) rfl))) (by decide) (backOf (W := 0) (rm_dnDONE l Z a0 hw [] W b1 T2.heap n0 O2 fp2_3) hZ (hw _ (List.mem_of_getElem? (i := 82) rfl)) (hw _ (List.mem_of_getElem? (i := 4) rfl)) (by decide) (by decide)) q3a q3c (g := (mkF m 111 #[.val (.int p1), .val (.int p2), .val (.long q3), .second, .val (.long q4), .second, .val (.int (0 : Int32)), .val (.int (2 : Int32)), .val (.long (q3 &&& (4611686018427387903 : Int64))), .second, .val (.long (((q3 &&& (4611686018427387903 : Int64)) + (1 : Int64)) + (q4 &&& (4611686018427387903 : Int64)))), .second, .val (.int (0 : Int32)), .val (.int (1 : Int32)), .val (.ref b1), .unset, .unset, .unset, .unset] [(.ref b1)])) rfl (by rw [hml]; rfl) (Steps.refl _) (argsL := []) (rest := []) (lenOf pd_7 rfl) rfl (by show 2 * 0 + _ ≤ _; exact Nat.le_of_eq rfl) (hb hby at_111) (fun _ _ => ⟨rfl, rfl, (by decide : 6 + 0 ≤ _), (by decide : 67 + 0 ≤ _)⟩)
  dsimp only [Pt.U, Pt.locs, Pt.cells, Pt.slots] at X3 l3 y3 z3 st3 hQ3
  subst l3 y3 z3
  obtain ⟨rfl, N3q, e3⟩ := hQ3
  have N3 := Fr.app N2 N3q
  obtain ⟨cq4, kq4, q4a, q4b, q4c⟩ := isOf hZ e3 fp2_0
  obtain ⟨_, _, ⟨T4, L4, k4, n4⟩, -, X4, ⟨Lc4, hQ4, l4, y4, z4⟩, st4⟩ := X3.virtualBack hx (y := (⟨"com/example/tillwire/tillwire/HttpFraming$BodyReader", "whole", "()Z"⟩ : MethodName)) (z := (⟨"com/example/tillwire/tillwire/HttpFraming$BodyReader", "whole", "()Z"⟩ : MethodName)) hown (mvT hZ (hw _ (List.mem_of_getElem? (i := 85) rfl))) (mvT hZ (hw _ (List.mem_of_getElem? (i := 86) rfl))) (notFace_of_selects (args := #[]) (mvT hZ (hw _ (List.mem_of_getElem? (i := 88) rfl)))) (mvT hZ (hw _ (List.mem_of_getElem? (i := 88) rfl))) (mvT hZ (hw _ (List.mem_of_getElem? (i := 87) rfl))) (by decide) (backOf (W := 0) (rm_wh0 l Z a0 hw [] W b1 T2.heap n0 O2 fp2_2) hZ (hw _ (List.mem_of_getElem? (i := 89) rfl)) (hw _ (List.mem_of_getElem? (i := 4) rfl)) (by decide) (by decide)) q4a q4c (g := (mkF m 118 #[.val (.int p1), .val (.int p2), .val (.long q3), .second, .val (.long q4), .second, .val (.int (0 : Int32)), .val (.int (2 : Int32)), .val (.long (q3 &&& (4611686018427387903 : Int64))), .second, .val (.long (((q3 &&& (4611686018427387903 : Int64)) + (1 : Int64)) + (q4 &&& (4611686018427387903 : Int64)))), .second, .val (.int (0 : Int32)), .val (.int (1 : Int32)), .val (.ref b1), .val (.int (1 : Int32)), .unset, .unset, .unset] [(.ref b1)])) rfl (by rw [hml]; rfl) (Steps.refl _) (argsL := []) (rest := []) (lenOf pd_7 rfl) rfl (by show 2 * 0 + _ ≤ _; exact Nat.le_of_eq rfl) (hb hby at_118) (fun _ _ => ⟨rfl, e3, (by decide : 6 + 0 ≤ _), (by decide : 67 + 0 ≤ _)⟩)
  dsimp only [Pt.U, Pt.locs, Pt.cells, Pt.slots] at X4 l4 y4 z4 st4 hQ4
  subst l4 y4 z4
  obtain ⟨rfl, N4q, e4⟩ := hQ4
  have N4 := Fr.app N3 N4q
  obtain ⟨cq5, kq5, q5a, q5b, q5c⟩ := isOf hZ e4 fp2_0
  obtain ⟨_, _, ⟨T5, L5, k5, n5⟩, -, X5, ⟨Lc5, hQ5, l5, y5, z5⟩, st5⟩ := X4.virtualBack hx (y := (⟨"com/example/tillwire/tillwire/HttpFraming$BodyReader", "end", "()V"⟩ : MethodName)) (z := (⟨"com/example/tillwire/tillwire/HttpFraming$BodyReader", "end", "()V"⟩ : MethodName)) hown (mvT hZ (hw _ (List.mem_of_getElem? (i := 90) rfl))) (mvT hZ (hw _ (List.mem_of_getElem? (i := 91) rfl))) (notFace_of_selects (args := #[]) (mvT hZ (hw _ (List.mem_of_getElem? (i := 93) rfl)))) (mvT hZ (hw _ (List.mem_of_getElem? (i := 93) rfl))) (mvT hZ (hw _ (List.mem_of_getElem? (i := 92) rfl))) (by decide) (backOf (W := 0) (rm_enDONE l Z a0 hw [] W b1 b2_b2 (0 : Int32) T2.heap n0 O2 g_b1 fp2_0 fp2_1 fp2_2 fp2_3) hZ (hw _ (List.mem_of_getElem? (i := 94) rfl)) (hw _ (List.mem_of_getElem? (i := 4) rfl)) (by decide) (by decide)) q5a q5c (g := (mkF m 125 #[.val (.int p1), .val (.int p2), .val (.long q3), .second, .val (.long q4), .second, .val (.int (0 : Int32)), .val (.int (2 : Int32)), .val (.long (q3 &&& (4611686018427387903 : Int64))), .second, .val (.long (((q3 &&& (4611686018427387903 : Int64)) + (1 : Int64)) + (q4 &&& (4611686018427387903 : Int64)))), .second, .val (.int (0 : Int32)), .val (.int (1 : Int32)), .val (.ref b1), .val (.int (1 : Int32)), .val (.int (0 : Int32)), .unset, .unset] [(.ref b1)])) rfl (by rw [hml]; rfl) (Steps.refl _) (argsL := []) (rest := []) (lenOf pd_0 rfl) rfl (by show 2 * 0 + _ ≤ _; exact Nat.le_of_eq rfl) (hb hby at_125) (fun _ _ => ⟨rfl, e4, (by decide : 6 + 0 ≤ _), (by decide : 67 + 0 ≤ _)⟩)
  dsimp only [Pt.U, Pt.locs, Pt.cells, Pt.slots] at X5 l5 y5 z5 st5 hQ5
  subst l5 y5 z5
  obtain ⟨N5q, hP5⟩ := hQ5
  have N5 := Fr.app N4 N5q
  obtain ⟨rfl, Kp5, fp5_0, fp5_1, fp5_2, fp5_3⟩ := hP5
  have f5_0 : Exa Z T5.heap b1 "com/example/tillwire/tillwire/HttpFraming$BodyReader" := (fp2_0).keep Kp5
  have f5_1 : Exa Z T5.heap b2_b2 "java/io/ByteArrayOutputStream" := (fp2_4).keep Kp5
  have f5_2 : Unt T5.heap b2_b2 := own_untk fp2_5 Kp5 (ninS (ne_exa fp2_4 fp2_0 (by decide)) nin0)
  have f5_3 : Fld Z T5.heap b2_b2 "java/io/ByteArrayOutputStream" "buf" "[B" (.ref b2_b3_b1_b2) := (fp2_6).keep Kp5 (ninS (ne_exa fp2_4 fp2_0 (by decide)) nin0)
  have f5_4 : Fld Z T5.heap b2_b2 "java/io/ByteArrayOutputStream" "count" "I" (.int (0 : Int32)) := (fp2_7).keep Kp5 (ninS (ne_exa fp2_4 fp2_0 (by decide)) nin0)
  have f5_5 : Exa Z T5.heap b2_b3_b1_b2 "[B" := (fp2_8).keep Kp5
  have f5_6 : Arv Z T5.heap b2_b3_b1_b2 k2_k3_k1_k2 .byte (32 : Int32) [] (.int (0 : Int32)) := (fp2_9).keep Kp5 (ninS (ne_exa fp2_8 fp2_0 (by decide)) nin0)
  have O5 := O2.keep Kp5 (allS g_b1 all0)
  obtain ⟨cq6, kq6, q6a, q6b, q6c⟩ := isOf hZ rfl fp5_0
  obtain ⟨_, _, ⟨T6, L6, k6, n6⟩, -, X6, ⟨Lc6, hQ6, l6, y6, z6⟩, st6⟩ := X5.virtualBack hx (y := (⟨"com/example/tillwire/tillwire/HttpFraming$BodyReader", "done", "()Z"⟩ : MethodName)) (z := (⟨"com/example/tillwire/tillwire/HttpFraming$BodyReader", "done", "()Z"⟩ : MethodName)) hown (mvT hZ (hw _ (List.mem_of_getElem? (i := 78) rfl))) (mvT hZ (hw _ (List.mem_of_getElem? (i := 79) rfl))) (notFace_of_selects (args := #[]) (mvT hZ (hw _ (List.mem_of_getElem? (i := 81) rfl)))) (mvT hZ (hw _ (List.mem_of_getElem? (i := 81) rfl))) (mvT hZ (hw _ (List.mem_of_getElem? (i := 80) rfl))) (by decide) (backOf (W := 0) (rm_dnDONE l Z a0 hw [] W b1 T5.heap n0 O5 fp5_3) hZ (hw _ (List.mem_of_getElem? (i := 82) rfl)) (hw _ (List.mem_of_getElem? (i := 4) rfl)) (by decide) (by decide)) q6a q6c (g := (mkF m 130 #[.val (.int p1), .val (.int p2), .val (.long q3), .second, .val (.long q4), .second, .val (.int (0 : Int32)), .val (.int (2 : Int32)), .val (.long (q3 &&& (4611686018427387903 : Int64))), .second, .val (.long (((q3 &&& (4611686018427387903 : Int64)) + (1 : Int64)) + (q4 &&& (4611686018427387903 : Int64)))), .second, .val (.int (0 : Int32)), .val (.int (1 : Int32)), .val (.ref b1), .val (.int (1 : Int32)), .val (.int (0 : Int32)), .unset, .unset] [(.ref b1)])) rfl (by rw [hml]; rfl) (Steps.refl _) (argsL := []) (rest := []) (lenOf pd_7 rfl) rfl (by show 2 * 0 + _ ≤ _; exact Nat.le_of_eq rfl) (hb hby at_130) (fun _ _ => ⟨rfl, rfl, (by decide : 6 + 0 ≤ _), (by decide : 67 + 0 ≤ _)⟩)
  dsimp only [Pt.U, Pt.locs, Pt.cells, Pt.slots] at X6 l6 y6 z6 st6 hQ6
  subst l6 y6 z6
  obtain ⟨rfl, N6q, e6⟩ := hQ6
  have N6 := Fr.app N5 N6q
  obtain ⟨cq7, kq7, q7a, q7b, q7c⟩ := isOf hZ e6 fp5_0
  obtain ⟨_, _, ⟨T7, L7, k7, n7⟩, -, X7, ⟨Lc7, hQ7, l7, y7, z7⟩, st7⟩ := X6.virtualBack hx (y := (⟨"com/example/tillwire/tillwire/HttpFraming$BodyReader", "end", "()V"⟩ : MethodName)) (z := (⟨"com/example/tillwire/tillwire/HttpFraming$BodyReader", "end", "()V"⟩ : MethodName)) hown (mvT hZ (hw _ (List.mem_of_getElem? (i := 90) rfl))) (mvT hZ (hw _ (List.mem_of_getElem? (i := 91) rfl))) (notFace_of_selects (args := #[]) (mvT hZ (hw _ (List.mem_of_getElem? (i := 93) rfl)))) (mvT hZ (hw _ (List.mem_of_getElem? (i := 93) rfl))) (mvT hZ (hw _ (List.mem_of_getElem? (i := 92) rfl))) (by decide) (backOf (W := 0) (rm_enDONE l Z a0 hw [] W b1 b2_b2 (0 : Int32) T5.heap n0 O5 g_b1 fp5_0 fp5_1 fp5_2 fp5_3) hZ (hw _ (List.mem_of_getElem? (i := 94) rfl)) (hw _ (List.mem_of_getElem? (i := 4) rfl)) (by decide) (by decide)) q7a q7c (g := (mkF m 137 #[.val (.int p1), .val (.int p2), .val (.long q3), .second, .val (.long q4), .second, .val (.int (0 : Int32)), .val (.int (2 : Int32)), .val (.long (q3 &&& (4611686018427387903 : Int64))), .second, .val (.long (((q3 &&& (4611686018427387903 : Int64)) + (1 : Int64)) + (q4 &&& (4611686018427387903 : Int64)))), .second, .val (.int (0 : Int32)), .val (.int (1 : Int32)), .val (.ref b1), .val (.int (1 : Int32)), .val (.int (0 : Int32)), .val (.int (1 : Int32)), .unset] [(.ref b1)])) rfl (by rw [hml]; rfl) (Steps.refl _) (argsL := []) (rest := []) (lenOf pd_0 rfl) rfl (by show 2 * 0 + _ ≤ _; exact Nat.le_of_eq rfl) (hb hby at_137) (fun _ _ => ⟨rfl, e6, (by decide : 6 + 0 ≤ _), (by decide : 67 + 0 ≤ _)⟩)
  dsimp only [Pt.U, Pt.locs, Pt.cells, Pt.slots] at X7 l7 y7 z7 st7 hQ7
  subst l7 y7 z7
  obtain ⟨N7q, hP7⟩ := hQ7
  have N7 := Fr.app N6 N7q
  obtain ⟨rfl, Kp7, fp7_0, fp7_1, fp7_2, fp7_3⟩ := hP7
  have f7_0 : Exa Z T7.heap b1 "com/example/tillwire/tillwire/HttpFraming$BodyReader" := (fp5_0).keep Kp7
  have f7_1 : Exa Z T7.heap b2_b2 "java/io/ByteArrayOutputStream" := (f5_1).keep Kp7
  have f7_2 : Unt T7.heap b2_b2 := own_untk f5_2 Kp7 (ninS (ne_exa f5_1 fp5_0 (by decide)) nin0)
  have f7_3 : Fld Z T7.heap b2_b2 "java/io/ByteArrayOutputStream" "buf" "[B" (.ref b2_b3_b1_b2) := (f5_3).keep Kp7 (ninS (ne_exa f5_1 fp5_0 (by decide)) nin0)
  have f7_4 : Fld Z T7.heap b2_b2 "java/io/ByteArrayOutputStream" "count" "I" (.int (0 : Int32)) := (f5_4).keep Kp7 (ninS (ne_exa f5_1 fp5_0 (by decide)) nin0)
  have f7_5 : Exa Z T7.heap b2_b3_b1_b2 "[B" := (f5_5).keep Kp7
  have f7_6 : Arv Z T7.heap b2_b3_b1_b2 k2_k3_k1_k2 .byte (32 : Int32) [] (.int (0 : Int32)) := (f5_6).keep Kp7 (ninS (ne_exa f5_5 fp5_0 (by decide)) nin0)
  have O7 := O5.keep Kp7 (allS g_b1 all0)
  obtain ⟨cq8, kq8, q8a, q8b, q8c⟩ := isOf hZ rfl fp7_0
  obtain ⟨_, _, ⟨T8, L8, k8, n8⟩, -, X8, ⟨Lc8, hQ8, l8, y8, z8⟩, st8⟩ := X7.virtualBack hx (y := (⟨"com/example/tillwire/tillwire/HttpFraming$BodyReader", "done", "()Z"⟩ : MethodName)) (z := (⟨"com/example/tillwire/tillwire/HttpFraming$BodyReader", "done", "()Z"⟩ : MethodName)) hown (mvT hZ (hw _ (List.mem_of_getElem? (i := 78) rfl))) (mvT hZ (hw _ (List.mem_of_getElem? (i := 79) rfl))) (notFace_of_selects (args := #[]) (mvT hZ (hw _ (List.mem_of_getElem? (i := 81) rfl)))) (mvT hZ (hw _ (List.mem_of_getElem? (i := 81) rfl))) (mvT hZ (hw _ (List.mem_of_getElem? (i := 80) rfl))) (by decide) (backOf (W := 0) (rm_dnDONE l Z a0 hw [] W b1 T7.heap n0 O7 fp7_3) hZ (hw _ (List.mem_of_getElem? (i := 82) rfl)) (hw _ (List.mem_of_getElem? (i := 4) rfl)) (by decide) (by decide)) q8a q8c (g := (mkF m 142 #[.val (.int p1), .val (.int p2), .val (.long q3), .second, .val (.long q4), .second, .val (.int (0 : Int32)), .val (.int (2 : Int32)), .val (.long (q3 &&& (4611686018427387903 : Int64))), .second, .val (.long (((q3 &&& (4611686018427387903 : Int64)) + (1 : Int64)) + (q4 &&& (4611686018427387903 : Int64)))), .second, .val (.int (0 : Int32)), .val (.int (1 : Int32)), .val (.ref b1), .val (.int (1 : Int32)), .val (.int (0 : Int32)), .val (.int (1 : Int32)), .unset] [(.ref b1)])) rfl (by rw [hml]; rfl) (Steps.refl _) (argsL := []) (rest := []) (lenOf pd_7 rfl) rfl (by show 2 * 0 + _ ≤ _; exact Nat.le_of_eq rfl) (hb hby at_142) (fun _ _ => ⟨rfl, rfl, (by decide : 6 + 0 ≤ _), (by decide : 67 + 0 ≤ _)⟩)
  dsimp only [Pt.U, Pt.locs, Pt.cells, Pt.slots] at X8 l8 y8 z8 st8 hQ8
  subst l8 y8 z8
  obtain ⟨rfl, N8q, e8⟩ := hQ8
  have N8 := Fr.app N7 N8q
  obtain ⟨cq9, kq9, q9a, q9b, q9c⟩ := isOf hZ e8 fp7_0
  obtain ⟨_, _, ⟨T9, L9, k9, n9⟩, -, X9, ⟨Lc9, hQ9, l9, y9, z9⟩, st9⟩ := X8.virtualBack hx (y := (⟨"com/example/tillwire/tillwire/HttpFraming$BodyReader", "whole", "()Z"⟩ : MethodName)) (z := (⟨"com/example/tillwire/tillwire/HttpFraming$BodyReader", "whole", "()Z"⟩ : MethodName)) hown (mvT hZ (hw _ (List.mem_of_getElem? (i := 85) rfl))) (mvT hZ (hw _ (List.mem_of_getElem? (i := 86) rfl))) (notFace_of_selects (args := #[]) (mvT hZ (hw _ (List.mem_of_getElem? (i := 88) rfl)))) (mvT hZ (hw _ (List.mem_of_getElem? (i := 88) rfl))) (mvT hZ (hw _ (List.mem_of_getElem? (i := 87) rfl))) (by decide) (backOf (W := 0) (rm_wh0 l Z a0 hw [] W b1 T7.heap n0 O7 fp7_2) hZ (hw _ (List.mem_of_getElem? (i := 89) rfl)) (hw _ (List.mem_of_getElem? (i := 4) rfl)) (by decide) (by decide)) q9a q9c (g := (mkF m 173 #[.val (.int p1), .val (.int p2), .val (.long q3), .second, .val (.long q4), .second, .val (.int (0 : Int32)), .val (.int (2 : Int32)), .val (.long (q3 &&& (4611686018427387903 : Int64))), .second, .val (.long (((q3 &&& (4611686018427387903 : Int64)) + (1 : Int64)) + (q4 &&& (4611686018427387903 : Int64)))), .second, .val (.int (0 : Int32)), .val (.int (1 : Int32)), .val (.ref b1), .val (.int (1 : Int32)), .val (.int (0 : Int32)), .val (.int (1 : Int32)), .val (.int (1 : Int32))] [(.ref b1)])) rfl (by rw [hml]; rfl) (Steps.refl _) (argsL := []) (rest := []) (lenOf pd_7 rfl) rfl (by show 2 * 0 + _ ≤ _; exact Nat.le_of_eq rfl) (hb hby at_173) (fun _ _ => ⟨rfl, e8, (by decide : 6 + 0 ≤ _), (by decide : 67 + 0 ≤ _)⟩)
  dsimp only [Pt.U, Pt.locs, Pt.cells, Pt.slots] at X9 l9 y9 z9 st9 hQ9
  subst l9 y9 z9
  obtain ⟨rfl, N9q, e9⟩ := hQ9
  have N9 := Fr.app N8 N9q
  obtain ⟨cq10, kq10, q10a, q10b, q10c⟩ := isOf hZ e9 fp7_0
  obtain ⟨_, _, ⟨T10, L10, k10, n10⟩, -, X10, ⟨Lc10, hQ10, l10, y10, z10⟩, st10⟩ := X9.virtualBack hx (y := (⟨"com/example/tillwire/tillwire/HttpFraming$BodyReader", "bytes", "()[B"⟩ : MethodName)) (z := (⟨"com/example/tillwire/tillwire/HttpFraming$BodyReader", "bytes", "()[B"⟩ : MethodName)) hown (mvT hZ (hw _ (List.mem_of_getElem? (i := 95) rfl))) (mvT hZ (hw _ (List.mem_of_getElem? (i := 96) rfl))) (notFace_of_selects (args := #[]) (mvT hZ (hw _ (List.mem_of_getElem? (i := 98) rfl)))) (mvT hZ (hw _ (List.mem_of_getElem? (i := 98) rfl))) (mvT hZ (hw _ (List.mem_of_getElem? (i := 97) rfl))) (by decide) (backOf (W := 0) (rm_by l Z a0 hw [] W b1 b2_b2 b2_b3_b1_b2 k2_k3_k1_k2 T7.heap n0 O7 g_b1 fp7_1 g_b2_b2 f7_1 f7_2 f7_3 f7_4 g_b2_b3_b1_b2 f7_6) hZ (hw _ (List.mem_of_getElem? (i := 99) rfl)) (hw _ (List.mem_of_getElem? (i := 4) rfl)) (by decide) (by decide)) q10a q10c (g := (mkF m 183 #[.val (.int p1), .val (.int p2), .val (.long q3), .second, .val (.long q4), .second, .val (.int (0 : Int32)), .val (.int (2 : Int32)), .val (.long (q3 &&& (4611686018427387903 : Int64))), .second, .val (.long (((q3 &&& (4611686018427387903 : Int64)) + (1 : Int64)) + (q4 &&& (4611686018427387903 : Int64)))), .second, .val (.int (0 : Int32)), .val (.int (1 : Int32)), .val (.ref b1), .val (.int (1 : Int32)), .val (.int (0 : Int32)), .val (.int (1 : Int32)), .val (.int (1 : Int32))] [(.ref b1)])) rfl (by rw [hml]; rfl) (Steps.refl _) (argsL := []) (rest := []) (lenOf pd_5 rfl) rfl (by show 2 * 0 + _ ≤ _; exact Nat.le_of_eq rfl) (hb hby at_183) (fun _ _ => ⟨rfl, e9, (by decide : 6 + 1 ≤ _), (by decide : 67 + 0 ≤ _)⟩)
  dsimp only [Pt.U, Pt.locs, Pt.cells, Pt.slots] at X10 l10 y10 z10 st10 hQ10
  subst l10 y10 z10
  obtain ⟨N10q, hP10⟩ := hQ10
  have N10 := Fr.app N9 N10q
  obtain ⟨b10, k10, rfl, g_b10, fv10⟩ := hP10
  obtain ⟨cl11, Ar11, qk11, Sz11, Nz11, Hs11, Gs11⟩ := id fv10
  obtain ⟨fs, hr, hrun, hended, hW, hsame⟩ := X10.leave (v := some (.int (1 : Int32))) (fun h => by rw [Bd.returns] at h; cases h)
  refine ⟨_, _, pre0 _ ?_, hrun, hended, _, _, rfl, ?_, ⟨_, rfl⟩, hW, hsame.mono (by decide) (by decide)⟩
  · show Steps p.tables e below (s₁.setTop (mkF m 0 #[.val (.int p1), .val (.int p2), .val (.long q3), .second, .val (.long q4), .second, .unset, .unset, .unset, .unset, .unset, .unset, .unset, .unset, .unset, .unset, .unset, .unset, .unset] [])) _
    refine XS.iloadN X0.here hx rfl (hb hby at_0) rfl ?_
    show Steps p.tables e below (s₁.setTop (mkF m 1 #[.val (.int p1), .val (.int p2), .val (.long q3), .second, .val (.long q4), .second, .unset, .unset, .unset, .unset, .unset, .unset, .unset, .unset, .unset, .unset, .unset, .unset, .unset] [(.int p2)])) _
    refine X0.ldcInt hx hown (mvT hZ (hw _ (List.mem_of_getElem? (i := 0) rfl))) (g := (mkF m 1 #[.val (.int p1), .val (.int p2), .val (.long q3), .second, .val (.long q4), .second, .unset, .unset, .unset, .unset, .unset, .unset, .unset, .unset, .unset, .unset, .unset, .unset, .unset] [(.int p2)])) rfl (hb hby at_1) _ ?_
    show Steps p.tables e below (s₁.setTop (mkF m 3 #[.val (.int p1), .val (.int p2), .val (.long q3), .second, .val (.long q4), .second, .unset, .unset, .unset, .unset, .unset, .unset, .unset, .unset, .unset, .unset, .unset, .unset, .unset] [(.int (2147483647 : Int32)), (.int p2)])) _
    refine XS.iand X0.here hx rfl (hb hby at_3) rfl ?_
    show Steps p.tables e below (s₁.setTop (mkF m 4 #[.val (.int p1), .val (.int p2), .val (.long q3), .second, .val (.long q4), .second, .unset, .unset, .unset, .unset, .unset, .unset, .unset, .unset, .unset, .unset, .unset, .unset, .unset] [(.int (p2 &&& (2147483647 : Int32)))])) _
    refine XS.istore X0.here hx rfl (hb hby at_4) rfl (l' := #[.val (.int p1), .val (.int p2), .val (.long q3), .second, .val (.long q4), .second, .val (.int (p2 &&& (2147483647 : Int32))), .unset, .unset, .unset, .unset, .unset, .unset, .unset, .unset, .unset, .unset, .unset, .unset]) rfl ?_
    show Steps p.tables e below (s₁.setTop (mkF m 6 #[.val (.int p1), .val (.int p2), .val (.long q3), .second, .val (.long q4), .second, .val (.int (p2 &&& (2147483647 : Int32))), .unset, .unset, .unset, .unset, .unset, .unset, .unset, .unset, .unset, .unset, .unset, .unset] [])) _
    refine XS.iloadN X0.here hx rfl (hb hby at_6) rfl ?_
    show Steps p.tables e below (s₁.setTop (mkF m 7 #[.val (.int p1), .val (.int p2), .val (.long q3), .second, .val (.long q4), .second, .val (.int (p2 &&& (2147483647 : Int32))), .unset, .unset, .unset, .unset, .unset, .unset, .unset, .unset, .unset, .unset, .unset, .unset] [(.int p1)])) _
    refine X0.ldcInt hx hown (mvT hZ (hw _ (List.mem_of_getElem? (i := 0) rfl))) (g := (mkF m 7 #[.val (.int p1), .val (.int p2), .val (.long q3), .second, .val (.long q4), .second, .val (.int (p2 &&& (2147483647 : Int32))), .unset, .unset, .unset, .unset, .unset, .unset, .unset, .unset, .unset, .unset, .unset, .unset] [(.int p1)])) rfl (hb hby at_7) _ ?_
    show Steps p.tables e below (s₁.setTop (mkF m 9 #[.val (.int p1), .val (.int p2), .val (.long q3), .second, .val (.long q4), .second, .val (.int (p2 &&& (2147483647 : Int32))), .unset, .unset, .unset, .unset, .unset, .unset, .unset, .unset, .unset, .unset, .unset, .unset] [(.int (2147483647 : Int32)), (.int p1)])) _
    refine XS.iand X0.here hx rfl (hb hby at_9) rfl ?_
    show Steps p.tables e below (s₁.setTop (mkF m 10 #[.val (.int p1), .val (.int p2), .val (.long q3), .second, .val (.long q4), .second, .val (.int (p2 &&& (2147483647 : Int32))), .unset, .unset, .unset, .unset, .unset, .unset, .unset, .unset, .unset, .unset, .unset, .unset] [(.int (p1 &&& (2147483647 : Int32)))])) _
    refine XS.iconst X0.here hx rfl (hb hby at_10) ?_
    show Steps p.tables e below (s₁.setTop (mkF m 11 #[.val (.int p1), .val (.int p2), .val (.long q3), .second, .val (.long q4), .second, .val (.int (p2 &&& (2147483647 : Int32))), .unset, .unset, .unset, .unset, .unset, .unset, .unset, .unset, .unset, .unset, .unset, .unset] [(.int (3 : Int32)), (.int (p1 &&& (2147483647 : Int32)))])) _
    refine iremM X0 hx rfl (hb hby at_11) rfl (by decide) ?_
    show Steps p.tables e below (s₁.setTop (mkF m 12 #[.val (.int p1), .val (.int p2), .val (.long q3), .second, .val (.long q4), .second, .val (.int (p2 &&& (2147483647 : Int32))), .unset, .unset, .unset, .unset, .unset, .unset, .unset, .unset, .unset, .unset, .unset, .unset] [(.int ((p1 &&& (2147483647 : Int32)) % (3 : Int32)))])) _
    rw [hk]
    show Steps p.tables e below (s₁.setTop (mkF m 12 #[.val (.int p1), .val (.int p2), .val (.long q3), .second, .val (.long q4), .second, .val (.int (p2 &&& (2147483647 : Int32))), .unset, .unset, .unset, .unset, .unset, .unset, .unset, .unset, .unset, .unset, .unset, .unset] [(.int (2 : Int32))])) _
    refine XS.istore X0.here hx rfl (hb hby at_12) rfl (l' := #[.val (.int p1), .val (.int p2), .val (.long q3), .second, .val (.long q4), .second, .val (.int (p2 &&& (2147483647 : Int32))), .val (.int (2 : Int32)), .unset, .unset, .unset, .unset, .unset, .unset, .unset, .unset, .unset, .unset, .unset]) rfl ?_
    show Steps p.tables e below (s₁.setTop (mkF m 14 #[.val (.int p1), .val (.int p2), .val (.long q3), .second, .val (.long q4), .second, .val (.int (p2 &&& (2147483647 : Int32))), .val (.int (2 : Int32)), .unset, .unset, .unset, .unset, .unset, .unset, .unset, .unset, .unset, .unset, .unset] [])) _
    refine XS.lloadN X0.here hx rfl (hb hby at_14) rfl ?_
    show Steps p.tables e below (s₁.setTop (mkF m 15 #[.val (.int p1), .val (.int p2), .val (.long q3), .second, .val (.long q4), .second, .val (.int (p2 &&& (2147483647 : Int32))), .val (.int (2 : Int32)), .unset, .unset, .unset, .unset, .unset, .unset, .unset, .unset, .unset, .unset, .unset] [(.long q3)])) _
    refine XS.lstore X0.here hx rfl (hb hby at_15) rfl (l' := #[.val (.int p1), .val (.int p2), .val (.long q3), .second, .val (.long q4), .second, .val (.int (p2 &&& (2147483647 : Int32))), .val (.int (2 : Int32)), .val (.long q3), .second, .unset, .unset, .unset, .unset, .unset, .unset, .unset, .unset, .unset]) rfl ?_
    show Steps p.tables e below (s₁.setTop (mkF m 17 #[.val (.int p1), .val (.int p2), .val (.long q3), .second, .val (.long q4), .second, .val (.int (p2 &&& (2147483647 : Int32))), .val (.int (2 : Int32)), .val (.long q3), .second, .unset, .unset, .unset, .unset, .unset, .unset, .unset, .unset, .unset] [])) _
    refine XS.iload X0.here hx rfl (hb hby at_17) rfl ?_
    show Steps p.tables e below (s₁.setTop (mkF m 19 #[.val (.int p1), .val (.int p2), .val (.long q3), .second, .val (.long q4), .second, .val (.int (p2 &&& (2147483647 : Int32))), .val (.int (2 : Int32)), .val (.long q3), .second, .unset, .unset, .unset, .unset, .unset, .unset, .unset, .unset, .unset] [(.int (2 : Int32))])) _
    refine XS.ifYes X0.here hx rfl (pc0 := 19) (pc' := 36) rfl (hb hby at_19) rfl ((if0 _ _).trans (feq ((by decide) : ¬ ((2 : Int32) = (0 : Int32)))).2) (by decide) (by decide) ?_
    show Steps p.tables e below (s₁.setTop (mkF m 36 #[.val (.int p1), .val (.int p2), .val (.long q3), .second, .val (.long q4), .second, .val (.int (p2 &&& (2147483647 : Int32))), .val (.int (2 : Int32)), .val (.long q3), .second, .unset, .unset, .unset, .unset, .unset, .unset, .unset, .unset, .unset] [])) _
    refine XS.iload X0.here hx rfl (hb hby at_36) rfl ?_
    show Steps p.tables e below (s₁.setTop (mkF m 38 #[.val (.int p1), .val (.int p2), .val (.long q3), .second, .val (.long q4), .second, .val (.int (p2 &&& (2147483647 : Int32))), .val (.int (2 : Int32)), .val (.long q3), .second, .unset, .unset, .unset, .unset, .unset, .unset, .unset, .unset, .unset] [(.int (2 : Int32))])) _
    refine XS.iconst X0.here hx rfl (hb hby at_38) ?_
    show Steps p.tables e below (s₁.setTop (mkF m 39 #[.val (.int p1), .val (.int p2), .val (.long q3), .second, .val (.long q4), .second, .val (.int (p2 &&& (2147483647 : Int32))), .val (.int (2 : Int32)), .val (.long q3), .second, .unset, .unset, .unset, .unset, .unset, .unset, .unset, .unset, .unset] [(.int (1 : Int32)), (.int (2 : Int32))])) _
    refine XS.icmpYes X0.here hx rfl (pc0 := 39) (pc' := 65) rfl (hb hby at_39) rfl (feq ((by decide) : ¬ ((2 : Int32) = (1 : Int32)))).2 (by decide) (by decide) ?_
    show Steps p.tables e below (s₁.setTop (mkF m 65 #[.val (.int p1), .val (.int p2), .val (.long q3), .second, .val (.long q4), .second, .val (.int (p2 &&& (2147483647 : Int32))), .val (.int (2 : Int32)), .val (.long q3), .second, .unset, .unset, .unset, .unset, .unset, .unset, .unset, .unset, .unset] [])) _
    refine XS.lloadN X0.here hx rfl (hb hby at_65) rfl ?_
    show Steps p.tables e below (s₁.setTop (mkF m 66 #[.val (.int p1), .val (.int p2), .val (.long q3), .second, .val (.long q4), .second, .val (.int (p2 &&& (2147483647 : Int32))), .val (.int (2 : Int32)), .val (.long q3), .second, .unset, .unset, .unset, .unset, .unset, .unset, .unset, .unset, .unset] [(.long q3)])) _
    refine X0.ldc2Long hx hown (mvT hZ (hw _ (List.mem_of_getElem? (i := 140) rfl))) (g := (mkF m 66 #[.val (.int p1), .val (.int p2), .val (.long q3), .second, .val (.long q4), .second, .val (.int (p2 &&& (2147483647 : Int32))), .val (.int (2 : Int32)), .val (.long q3), .second, .unset, .unset, .unset, .unset, .unset, .unset, .unset, .unset, .unset] [(.long q3)])) rfl (hb hby at_66) _ ?_
    show Steps p.tables e below (s₁.setTop (mkF m 69 #[.val (.int p1), .val (.int p2), .val (.long q3), .second, .val (.long q4), .second, .val (.int (p2 &&& (2147483647 : Int32))), .val (.int (2 : Int32)), .val (.long q3), .second, .unset, .unset, .unset, .unset, .unset, .unset, .unset, .unset, .unset] [(.long (4611686018427387903 : Int64)), (.long q3)])) _
    refine XS.land X0.here hx rfl (hb hby at_69) rfl ?_
    show Steps p.tables e below (s₁.setTop (mkF m 70 #[.val (.int p1), .val (.int p2), .val (.long q3), .second, .val (.long q4), .second, .val (.int (p2 &&& (2147483647 : Int32))), .val (.int (2 : Int32)), .val (.long q3), .second, .unset, .unset, .unset, .unset, .unset, .unset, .unset, .unset, .unset] [(.long (q3 &&& (4611686018427387903 : Int64)))])) _
    refine XS.lstore X0.here hx rfl (hb hby at_70) rfl (l' := #[.val (.int p1), .val (.int p2), .val (.long q3), .second, .val (.long q4), .second, .val (.int (p2 &&& (2147483647 : Int32))), .val (.int (2 : Int32)), .val (.long (q3 &&& (4611686018427387903 : Int64))), .second, .unset, .unset, .unset, .unset, .unset, .unset, .unset, .unset, .unset]) rfl ?_
    show Steps p.tables e below (s₁.setTop (mkF m 72 #[.val (.int p1), .val (.int p2), .val (.long q3), .second, .val (.long q4), .second, .val (.int (p2 &&& (2147483647 : Int32))), .val (.int (2 : Int32)), .val (.long (q3 &&& (4611686018427387903 : Int64))), .second, .unset, .unset, .unset, .unset, .unset, .unset, .unset, .unset, .unset] [])) _
    refine XS.iconst X0.here hx rfl (hb hby at_72) ?_
    show Steps p.tables e below (s₁.setTop (mkF m 73 #[.val (.int p1), .val (.int p2), .val (.long q3), .second, .val (.long q4), .second, .val (.int (p2 &&& (2147483647 : Int32))), .val (.int (2 : Int32)), .val (.long (q3 &&& (4611686018427387903 : Int64))), .second, .unset, .unset, .unset, .unset, .unset, .unset, .unset, .unset, .unset] [(.int (0 : Int32))])) _
    refine XS.istore X0.here hx rfl (hb hby at_73) rfl (l' := #[.val (.int p1), .val (.int p2), .val (.long q3), .second, .val (.long q4), .second, .val (.int (0 : Int32)), .val (.int (2 : Int32)), .val (.long (q3 &&& (4611686018427387903 : Int64))), .second, .unset, .unset, .unset, .unset, .unset, .unset, .unset, .unset, .unset]) rfl ?_
    show Steps p.tables e below (s₁.setTop (mkF m 75 #[.val (.int p1), .val (.int p2), .val (.long q3), .second, .val (.long q4), .second, .val (.int (0 : Int32)), .val (.int (2 : Int32)), .val (.long (q3 &&& (4611686018427387903 : Int64))), .second, .unset, .unset, .unset, .unset, .unset, .unset, .unset, .unset, .unset] [])) _
    refine XS.lload X0.here hx rfl (hb hby at_75) rfl ?_
    show Steps p.tables e below (s₁.setTop (mkF m 77 #[.val (.int p1), .val (.int p2), .val (.long q3), .second, .val (.long q4), .second, .val (.int (0 : Int32)), .val (.int (2 : Int32)), .val (.long (q3 &&& (4611686018427387903 : Int64))), .second, .unset, .unset, .unset, .unset, .unset, .unset, .unset, .unset, .unset] [(.long (q3 &&& (4611686018427387903 : Int64)))])) _
    refine XS.lconst X0.here hx rfl (hb hby at_77) ?_
    show Steps p.tables e below (s₁.setTop (mkF m 78 #[.val (.int p1), .val (.int p2), .val (.long q3), .second, .val (.long q4), .second, .val (.int (0 : Int32)), .val (.int (2 : Int32)), .val (.long (q3 &&& (4611686018427387903 : Int64))), .second, .unset, .unset, .unset, .unset, .unset, .unset, .unset, .unset, .unset] [(.long (1 : Int64)), (.long (q3 &&& (4611686018427387903 : Int64)))])) _
    refine XS.ladd X0.here hx rfl (hb hby at_78) rfl ?_
    show Steps p.tables e below (s₁.setTop (mkF m 79 #[.val (.int p1), .val (.int p2), .val (.long q3), .second, .val (.long q4), .second, .val (.int (0 : Int32)), .val (.int (2 : Int32)), .val (.long (q3 &&& (4611686018427387903 : Int64))), .second, .unset, .unset, .unset, .unset, .unset, .unset, .unset, .unset, .unset] [(.long ((q3 &&& (4611686018427387903 : Int64)) + (1 : Int64)))])) _
    refine XS.lload X0.here hx rfl (hb hby at_79) rfl ?_
    show Steps p.tables e below (s₁.setTop (mkF m 81 #[.val (.int p1), .val (.int p2), .val (.long q3), .second, .val (.long q4), .second, .val (.int (0 : Int32)), .val (.int (2 : Int32)), .val (.long (q3 &&& (4611686018427387903 : Int64))), .second, .unset, .unset, .unset, .unset, .unset, .unset, .unset, .unset, .unset] [(.long q4), (.long ((q3 &&& (4611686018427387903 : Int64)) + (1 : Int64)))])) _
    refine X0.ldc2Long hx hown (mvT hZ (hw _ (List.mem_of_getElem? (i := 140) rfl))) (g := (mkF m 81 #[.val (.int p1), .val (.int p2), .val (.long q3), .second, .val (.long q4), .second, .val (.int (0 : Int32)), .val (.int (2 : Int32)), .val (.long (q3 &&& (4611686018427387903 : Int64))), .second, .unset, .unset, .unset, .unset, .unset, .unset, .unset, .unset, .unset] [(.long q4), (.long ((q3 &&& (4611686018427387903 : Int64)) + (1 : Int64)))])) rfl (hb hby at_81) _ ?_
    show Steps p.tables e below (s₁.setTop (mkF m 84 #[.val (.int p1), .val (.int p2), .val (.long q3), .second, .val (.long q4), .second, .val (.int (0 : Int32)), .val (.int (2 : Int32)), .val (.long (q3 &&& (4611686018427387903 : Int64))), .second, .unset, .unset, .unset, .unset, .unset, .unset, .unset, .unset, .unset] [(.long (4611686018427387903 : Int64)), (.long q4), (.long ((q3 &&& (4611686018427387903 : Int64)) + (1 : Int64)))])) _
    refine XS.land X0.here hx rfl (hb hby at_84) rfl ?_
    show Steps p.tables e below (s₁.setTop (mkF m 85 #[.val (.int p1), .val (.int p2), .val (.long q3), .second, .val (.long q4), .second, .val (.int (0 : Int32)), .val (.int (2 : Int32)), .val (.long (q3 &&& (4611686018427387903 : Int64))), .second, .unset, .unset, .unset, .unset, .unset, .unset, .unset, .unset, .unset] [(.long (q4 &&& (4611686018427387903 : Int64))), (.long ((q3 &&& (4611686018427387903 : Int64)) + (1 : Int64)))])) _
    refine XS.ladd X0.here hx rfl (hb hby at_85) rfl ?_
    show Steps p.tables e below (s₁.setTop (mkF m 86 #[.val (.int p1), .val (.int p2), .val (.long q3), .second, .val (.long q4), .second, .val (.int (0 : Int32)), .val (.int (2 : Int32)), .val (.long (q3 &&& (4611686018427387903 : Int64))), .second, .unset, .unset, .unset, .unset, .unset, .unset, .unset, .unset, .unset] [(.long (((q3 &&& (4611686018427387903 : Int64)) + (1 : Int64)) + (q4 &&& (4611686018427387903 : Int64))))])) _
    refine XS.lstore X0.here hx rfl (hb hby at_86) rfl (l' := #[.val (.int p1), .val (.int p2), .val (.long q3), .second, .val (.long q4), .second, .val (.int (0 : Int32)), .val (.int (2 : Int32)), .val (.long (q3 &&& (4611686018427387903 : Int64))), .second, .val (.long (((q3 &&& (4611686018427387903 : Int64)) + (1 : Int64)) + (q4 &&& (4611686018427387903 : Int64)))), .second, .unset, .unset, .unset, .unset, .unset, .unset, .unset]) rfl ?_
    show Steps p.tables e below (s₁.setTop (mkF m 88 #[.val (.int p1), .val (.int p2), .val (.long q3), .second, .val (.long q4), .second, .val (.int (0 : Int32)), .val (.int (2 : Int32)), .val (.long (q3 &&& (4611686018427387903 : Int64))), .second, .val (.long (((q3 &&& (4611686018427387903 : Int64)) + (1 : Int64)) + (q4 &&& (4611686018427387903 : Int64)))), .second, .unset, .unset, .unset, .unset, .unset, .unset, .unset] [])) _
    refine XS.iconst X0.here hx rfl (hb hby at_88) ?_
    show Steps p.tables e below (s₁.setTop (mkF m 89 #[.val (.int p1), .val (.int p2), .val (.long q3), .second, .val (.long q4), .second, .val (.int (0 : Int32)), .val (.int (2 : Int32)), .val (.long (q3 &&& (4611686018427387903 : Int64))), .second, .val (.long (((q3 &&& (4611686018427387903 : Int64)) + (1 : Int64)) + (q4 &&& (4611686018427387903 : Int64)))), .second, .unset, .unset, .unset, .unset, .unset, .unset, .unset] [(.int (0 : Int32))])) _
    refine XS.istore X0.here hx rfl (hb hby at_89) rfl (l' := #[.val (.int p1), .val (.int p2), .val (.long q3), .second, .val (.long q4), .second, .val (.int (0 : Int32)), .val (.int (2 : Int32)), .val (.long (q3 &&& (4611686018427387903 : Int64))), .second, .val (.long (((q3 &&& (4611686018427387903 : Int64)) + (1 : Int64)) + (q4 &&& (4611686018427387903 : Int64)))), .second, .val (.int (0 : Int32)), .unset, .unset, .unset, .unset, .unset, .unset]) rfl ?_
    show Steps p.tables e below (s₁.setTop (mkF m 91 #[.val (.int p1), .val (.int p2), .val (.long q3), .second, .val (.long q4), .second, .val (.int (0 : Int32)), .val (.int (2 : Int32)), .val (.long (q3 &&& (4611686018427387903 : Int64))), .second, .val (.long (((q3 &&& (4611686018427387903 : Int64)) + (1 : Int64)) + (q4 &&& (4611686018427387903 : Int64)))), .second, .val (.int (0 : Int32)), .unset, .unset, .unset, .unset, .unset, .unset] [])) _
    refine XS.iconst X0.here hx rfl (hb hby at_91) ?_
    show Steps p.tables e below (s₁.setTop (mkF m 92 #[.val (.int p1), .val (.int p2), .val (.long q3), .second, .val (.long q4), .second, .val (.int (0 : Int32)), .val (.int (2 : Int32)), .val (.long (q3 &&& (4611686018427387903 : Int64))), .second, .val (.long (((q3 &&& (4611686018427387903 : Int64)) + (1 : Int64)) + (q4 &&& (4611686018427387903 : Int64)))), .second, .val (.int (0 : Int32)), .unset, .unset, .unset, .unset, .unset, .unset] [(.int (1 : Int32))])) _
    refine XS.istore X0.here hx rfl (hb hby at_92) rfl (l' := #[.val (.int p1), .val (.int p2), .val (.long q3), .second, .val (.long q4), .second, .val (.int (0 : Int32)), .val (.int (2 : Int32)), .val (.long (q3 &&& (4611686018427387903 : Int64))), .second, .val (.long (((q3 &&& (4611686018427387903 : Int64)) + (1 : Int64)) + (q4 &&& (4611686018427387903 : Int64)))), .second, .val (.int (0 : Int32)), .val (.int (1 : Int32)), .unset, .unset, .unset, .unset, .unset]) rfl ?_
    show Steps p.tables e below (s₁.setTop (mkF m 94 #[.val (.int p1), .val (.int p2), .val (.long q3), .second, .val (.long q4), .second, .val (.int (0 : Int32)), .val (.int (2 : Int32)), .val (.long (q3 &&& (4611686018427387903 : Int64))), .second, .val (.long (((q3 &&& (4611686018427387903 : Int64)) + (1 : Int64)) + (q4 &&& (4611686018427387903 : Int64)))), .second, .val (.int (0 : Int32)), .val (.int (1 : Int32)), .unset, .unset, .unset, .unset, .unset] [])) _
    refine st1 _ ?_
    show Steps p.tables e below (T1.setTop (mkF m 97 #[.val (.int p1), .val (.int p2), .val (.long q3), .second, .val (.long q4), .second, .val (.int (0 : Int32)), .val (.int (2 : Int32)), .val (.long (q3 &&& (4611686018427387903 : Int64))), .second, .val (.long (((q3 &&& (4611686018427387903 : Int64)) + (1 : Int64)) + (q4 &&& (4611686018427387903 : Int64)))), .second, .val (.int (0 : Int32)), .val (.int (1 : Int32)), .unset, .unset, .unset, .unset, .unset] [(.ref b1)])) _
    refine XS.dup X1.here hx rfl (hb hby at_97) rfl rfl ?_
    show Steps p.tables e below (T1.setTop (mkF m 98 #[.val (.int p1), .val (.int p2), .val (.long q3), .second, .val (.long q4), .second, .val (.int (0 : Int32)), .val (.int (2 : Int32)), .val (.long (q3 &&& (4611686018427387903 : Int64))), .second, .val (.long (((q3 &&& (4611686018427387903 : Int64)) + (1 : Int64)) + (q4 &&& (4611686018427387903 : Int64)))), .second, .val (.int (0 : Int32)), .val (.int (1 : Int32)), .unset, .unset, .unset, .unset, .unset] [(.ref b1), (.ref b1)])) _
    refine XS.lload X1.here hx rfl (hb hby at_98) rfl ?_
    show Steps p.tables e below (T1.setTop (mkF m 100 #[.val (.int p1), .val (.int p2), .val (.long q3), .second, .val (.long q4), .second, .val (.int (0 : Int32)), .val (.int (2 : Int32)), .val (.long (q3 &&& (4611686018427387903 : Int64))), .second, .val (.long (((q3 &&& (4611686018427387903 : Int64)) + (1 : Int64)) + (q4 &&& (4611686018427387903 : Int64)))), .second, .val (.int (0 : Int32)), .val (.int (1 : Int32)), .unset, .unset, .unset, .unset, .unset] [(.long (((q3 &&& (4611686018427387903 : Int64)) + (1 : Int64)) + (q4 &&& (4611686018427387903 : Int64)))), (.ref b1), (.ref b1)])) _
    refine XS.iload X1.here hx rfl (hb hby at_100) rfl ?_
    show Steps p.tables e below (T1.setTop (mkF m 102 #[.val (.int p1), .val (.int p2), .val (.long q3), .second, .val (.long q4), .second, .val (.int (0 : Int32)), .val (.int (2 : Int32)), .val (.long (q3 &&& (4611686018427387903 : Int64))), .second, .val (.long (((q3 &&& (4611686018427387903 : Int64)) + (1 : Int64)) + (q4 &&& (4611686018427387903 : Int64)))), .second, .val (.int (0 : Int32)), .val (.int (1 : Int32)), .unset, .unset, .unset, .unset, .unset] [(.int (0 : Int32)), (.long (((q3 &&& (4611686018427387903 : Int64)) + (1 : Int64)) + (q4 &&& (4611686018427387903 : Int64)))), (.ref b1), (.ref b1)])) _
    refine XS.lload X1.here hx rfl (hb hby at_102) rfl ?_
    show Steps p.tables e below (T1.setTop (mkF m 104 #[.val (.int p1), .val (.int p2), .val (.long q3), .second, .val (.long q4), .second, .val (.int (0 : Int32)), .val (.int (2 : Int32)), .val (.long (q3 &&& (4611686018427387903 : Int64))), .second, .val (.long (((q3 &&& (4611686018427387903 : Int64)) + (1 : Int64)) + (q4 &&& (4611686018427387903 : Int64)))), .second, .val (.int (0 : Int32)), .val (.int (1 : Int32)), .unset, .unset, .unset, .unset, .unset] [(.long (q3 &&& (4611686018427387903 : Int64))), (.int (0 : Int32)), (.long (((q3 &&& (4611686018427387903 : Int64)) + (1 : Int64)) + (q4 &&& (4611686018427387903 : Int64)))), (.ref b1), (.ref b1)])) _
    refine st2.trans ?_
    show Steps p.tables e below (T2.setTop (mkF m 107 #[.val (.int p1), .val (.int p2), .val (.long q3), .second, .val (.long q4), .second, .val (.int (0 : Int32)), .val (.int (2 : Int32)), .val (.long (q3 &&& (4611686018427387903 : Int64))), .second, .val (.long (((q3 &&& (4611686018427387903 : Int64)) + (1 : Int64)) + (q4 &&& (4611686018427387903 : Int64)))), .second, .val (.int (0 : Int32)), .val (.int (1 : Int32)), .unset, .unset, .unset, .unset, .unset] [(.ref b1)])) _
    refine XS.astore X2.here hx rfl (hb hby at_107) rfl rfl (l' := #[.val (.int p1), .val (.int p2), .val (.long q3), .second, .val (.long q4), .second, .val (.int (0 : Int32)), .val (.int (2 : Int32)), .val (.long (q3 &&& (4611686018427387903 : Int64))), .second, .val (.long (((q3 &&& (4611686018427387903 : Int64)) + (1 : Int64)) + (q4 &&& (4611686018427387903 : Int64)))), .second, .val (.int (0 : Int32)), .val (.int (1 : Int32)), .val (.ref b1), .unset, .unset, .unset, .unset]) rfl ?_
    show Steps p.tables e below (T2.setTop (mkF m 109 #[.val (.int p1), .val (.int p2), .val (.long q3), .second, .val (.long q4), .second, .val (.int (0 : Int32)), .val (.int (2 : Int32)), .val (.long (q3 &&& (4611686018427387903 : Int64))), .second, .val (.long (((q3 &&& (4611686018427387903 : Int64)) + (1 : Int64)) + (q4 &&& (4611686018427387903 : Int64)))), .second, .val (.int (0 : Int32)), .val (.int (1 : Int32)), .val (.ref b1), .unset, .unset, .unset, .unset] [])) _
    refine XS.aload X2.here hx rfl (hb hby at_109) rfl rfl ?_
    show Steps p.tables e below (T2.setTop (mkF m 111 #[.val (.int p1), .val (.int p2), .val (.long q3), .second, .val (.long q4), .second, .val (.int (0 : Int32)), .val (.int (2 : Int32)), .val (.long (q3 &&& (4611686018427387903 : Int64))), .second, .val (.long (((q3 &&& (4611686018427387903 : Int64)) + (1 : Int64)) + (q4 &&& (4611686018427387903 : Int64)))), .second, .val (.int (0 : Int32)), .val (.int (1 : Int32)), .val (.ref b1), .unset, .unset, .unset, .unset] [(.ref b1)])) _
    refine st3.trans ?_
    show Steps p.tables e below (T3.setTop (mkF m 114 #[.val (.int p1), .val (.int p2), .val (.long q3), .second, .val (.long q4), .second, .val (.int (0 : Int32)), .val (.int (2 : Int32)), .val (.long (q3 &&& (4611686018427387903 : Int64))), .second, .val (.long (((q3 &&& (4611686018427387903 : Int64)) + (1 : Int64)) + (q4 &&& (4611686018427387903 : Int64)))), .second, .val (.int (0 : Int32)), .val (.int (1 : Int32)), .val (.ref b1), .unset, .unset, .unset, .unset] [(.int (1 : Int32))])) _
    refine XS.istore X3.here hx rfl (hb hby at_114) rfl (l' := #[.val (.int p1), .val (.int p2), .val (.long q3), .second, .val (.long q4), .second, .val (.int (0 : Int32)), .val (.int (2 : Int32)), .val (.long (q3 &&& (4611686018427387903 : Int64))), .second, .val (.long (((q3 &&& (4611686018427387903 : Int64)) + (1 : Int64)) + (q4 &&& (4611686018427387903 : Int64)))), .second, .val (.int (0 : Int32)), .val (.int (1 : Int32)), .val (.ref b1), .val (.int (1 : Int32)), .unset, .unset, .unset]) rfl ?_
    show Steps p.tables e below (T3.setTop (mkF m 116 #[.val (.int p1), .val (.int p2), .val (.long q3), .second, .val (.long q4), .second, .val (.int (0 : Int32)), .val (.int (2 : Int32)), .val (.long (q3 &&& (4611686018427387903 : Int64))), .second, .val (.long (((q3 &&& (4611686018427387903 : Int64)) + (1 : Int64)) + (q4 &&& (4611686018427387903 : Int64)))), .second, .val (.int (0 : Int32)), .val (.int (1 : Int32)), .val (.ref b1), .val (.int (1 : Int32)), .unset, .unset, .unset] [])) _
    refine XS.aload X3.here hx rfl (hb hby at_116) rfl rfl ?_
    show Steps p.tables e below (T3.setTop (mkF m 118 #[.val (.int p1), .val (.int p2), .val (.long q3), .second, .val (.long q4), .second, .val (.int (0 : Int32)), .val (.int (2 : Int32)), .val (.long (q3 &&& (4611686018427387903 : Int64))), .second, .val (.long (((q3 &&& (4611686018427387903 : Int64)) + (1 : Int64)) + (q4 &&& (4611686018427387903 : Int64)))), .second, .val (.int (0 : Int32)), .val (.int (1 : Int32)), .val (.ref b1), .val (.int (1 : Int32)), .unset, .unset, .unset] [(.ref b1)])) _
    refine st4.trans ?_
    show Steps p.tables e below (T4.setTop (mkF m 121 #[.val (.int p1), .val (.int p2), .val (.long q3), .second, .val (.long q4), .second, .val (.int (0 : Int32)), .val (.int (2 : Int32)), .val (.long (q3 &&& (4611686018427387903 : Int64))), .second, .val (.long (((q3 &&& (4611686018427387903 : Int64)) + (1 : Int64)) + (q4 &&& (4611686018427387903 : Int64)))), .second, .val (.int (0 : Int32)), .val (.int (1 : Int32)), .val (.ref b1), .val (.int (1 : Int32)), .unset, .unset, .unset] [(.int (0 : Int32))])) _
    refine XS.istore X4.here hx rfl (hb hby at_121) rfl (l' := #[.val (.int p1), .val (.int p2), .val (.long q3), .second, .val (.long q4), .second, .val (.int (0 : Int32)), .val (.int (2 : Int32)), .val (.long (q3 &&& (4611686018427387903 : Int64))), .second, .val (.long (((q3 &&& (4611686018427387903 : Int64)) + (1 : Int64)) + (q4 &&& (4611686018427387903 : Int64)))), .second, .val (.int (0 : Int32)), .val (.int (1 : Int32)), .val (.ref b1), .val (.int (1 : Int32)), .val (.int (0 : Int32)), .unset, .unset]) rfl ?_
    show Steps p.tables e below (T4.setTop (mkF m 123 #[.val (.int p1), .val (.int p2), .val (.long q3), .second, .val (.long q4), .second, .val (.int (0 : Int32)), .val (.int (2 : Int32)), .val (.long (q3 &&& (4611686018427387903 : Int64))), .second, .val (.long (((q3 &&& (4611686018427387903 : Int64)) + (1 : Int64)) + (q4 &&& (4611686018427387903 : Int64)))), .second, .val (.int (0 : Int32)), .val (.int (1 : Int32)), .val (.ref b1), .val (.int (1 : Int32)), .val (.int (0 : Int32)), .unset, .unset] [])) _
    refine XS.aload X4.here hx rfl (hb hby at_123) rfl rfl ?_
    show Steps p.tables e below (T4.setTop (mkF m 125 #[.val (.int p1), .val (.int p2), .val (.long q3), .second, .val (.long q4), .second, .val (.int (0 : Int32)), .val (.int (2 : Int32)), .val (.long (q3 &&& (4611686018427387903 : Int64))), .second, .val (.long (((q3 &&& (4611686018427387903 : Int64)) + (1 : Int64)) + (q4 &&& (4611686018427387903 : Int64)))), .second, .val (.int (0 : Int32)), .val (.int (1 : Int32)), .val (.ref b1), .val (.int (1 : Int32)), .val (.int (0 : Int32)), .unset, .unset] [(.ref b1)])) _
    refine st5.trans ?_
    show Steps p.tables e below (T5.setTop (mkF m 128 #[.val (.int p1), .val (.int p2), .val (.long q3), .second, .val (.long q4), .second, .val (.int (0 : Int32)), .val (.int (2 : Int32)), .val (.long (q3 &&& (4611686018427387903 : Int64))), .second, .val (.long (((q3 &&& (4611686018427387903 : Int64)) + (1 : Int64)) + (q4 &&& (4611686018427387903 : Int64)))), .second, .val (.int (0 : Int32)), .val (.int (1 : Int32)), .val (.ref b1), .val (.int (1 : Int32)), .val (.int (0 : Int32)), .unset, .unset] [])) _
    refine XS.aload X5.here hx rfl (hb hby at_128) rfl rfl ?_
    show Steps p.tables e below (T5.setTop (mkF m 130 #[.val (.int p1), .val (.int p2), .val (.long q3), .second, .val (.long q4), .second, .val (.int (0 : Int32)), .val (.int (2 : Int32)), .val (.long (q3 &&& (4611686018427387903 : Int64))), .second, .val (.long (((q3 &&& (4611686018427387903 : Int64)) + (1 : Int64)) + (q4 &&& (4611686018427387903 : Int64)))), .second, .val (.int (0 : Int32)), .val (.int (1 : Int32)), .val (.ref b1), .val (.int (1 : Int32)), .val (.int (0 : Int32)), .unset, .unset] [(.ref b1)])) _
    refine st6.trans ?_
    show Steps p.tables e below (T6.setTop (mkF m 133 #[.val (.int p1), .val (.int p2), .val (.long q3), .second, .val (.long q4), .second, .val (.int (0 : Int32)), .val (.int (2 : Int32)), .val (.long (q3 &&& (4611686018427387903 : Int64))), .second, .val (.long (((q3 &&& (4611686018427387903 : Int64)) + (1 : Int64)) + (q4 &&& (4611686018427387903 : Int64)))), .second, .val (.int (0 : Int32)), .val (.int (1 : Int32)), .val (.ref b1), .val (.int (1 : Int32)), .val (.int (0 : Int32)), .unset, .unset] [(.int (1 : Int32))])) _
    refine XS.istore X6.here hx rfl (hb hby at_133) rfl (l' := #[.val (.int p1), .val (.int p2), .val (.long q3), .second, .val (.long q4), .second, .val (.int (0 : Int32)), .val (.int (2 : Int32)), .val (.long (q3 &&& (4611686018427387903 : Int64))), .second, .val (.long (((q3 &&& (4611686018427387903 : Int64)) + (1 : Int64)) + (q4 &&& (4611686018427387903 : Int64)))), .second, .val (.int (0 : Int32)), .val (.int (1 : Int32)), .val (.ref b1), .val (.int (1 : Int32)), .val (.int (0 : Int32)), .val (.int (1 : Int32)), .unset]) rfl ?_
    show Steps p.tables e below (T6.setTop (mkF m 135 #[.val (.int p1), .val (.int p2), .val (.long q3), .second, .val (.long q4), .second, .val (.int (0 : Int32)), .val (.int (2 : Int32)), .val (.long (q3 &&& (4611686018427387903 : Int64))), .second, .val (.long (((q3 &&& (4611686018427387903 : Int64)) + (1 : Int64)) + (q4 &&& (4611686018427387903 : Int64)))), .second, .val (.int (0 : Int32)), .val (.int (1 : Int32)), .val (.ref b1), .val (.int (1 : Int32)), .val (.int (0 : Int32)), .val (.int (1 : Int32)), .unset] [])) _
    refine XS.aload X6.here hx rfl (hb hby at_135) rfl rfl ?_
    show Steps p.tables e below (T6.setTop (mkF m 137 #[.val (.int p1), .val (.int p2), .val (.long q3), .second, .val (.long q4), .second, .val (.int (0 : Int32)), .val (.int (2 : Int32)), .val (.long (q3 &&& (4611686018427387903 : Int64))), .second, .val (.long (((q3 &&& (4611686018427387903 : Int64)) + (1 : Int64)) + (q4 &&& (4611686018427387903 : Int64)))), .second, .val (.int (0 : Int32)), .val (.int (1 : Int32)), .val (.ref b1), .val (.int (1 : Int32)), .val (.int (0 : Int32)), .val (.int (1 : Int32)), .unset] [(.ref b1)])) _
    refine st7.trans ?_
    show Steps p.tables e below (T7.setTop (mkF m 140 #[.val (.int p1), .val (.int p2), .val (.long q3), .second, .val (.long q4), .second, .val (.int (0 : Int32)), .val (.int (2 : Int32)), .val (.long (q3 &&& (4611686018427387903 : Int64))), .second, .val (.long (((q3 &&& (4611686018427387903 : Int64)) + (1 : Int64)) + (q4 &&& (4611686018427387903 : Int64)))), .second, .val (.int (0 : Int32)), .val (.int (1 : Int32)), .val (.ref b1), .val (.int (1 : Int32)), .val (.int (0 : Int32)), .val (.int (1 : Int32)), .unset] [])) _
    refine XS.aload X7.here hx rfl (hb hby at_140) rfl rfl ?_
    show Steps p.tables e below (T7.setTop (mkF m 142 #[.val (.int p1), .val (.int p2), .val (.long q3), .second, .val (.long q4), .second, .val (.int (0 : Int32)), .val (.int (2 : Int32)), .val (.long (q3 &&& (4611686018427387903 : Int64))), .second, .val (.long (((q3 &&& (4611686018427387903 : Int64)) + (1 : Int64)) + (q4 &&& (4611686018427387903 : Int64)))), .second, .val (.int (0 : Int32)), .val (.int (1 : Int32)), .val (.ref b1), .val (.int (1 : Int32)), .val (.int (0 : Int32)), .val (.int (1 : Int32)), .unset] [(.ref b1)])) _
    refine st8.trans ?_
    show Steps p.tables e below (T8.setTop (mkF m 145 #[.val (.int p1), .val (.int p2), .val (.long q3), .second, .val (.long q4), .second, .val (.int (0 : Int32)), .val (.int (2 : Int32)), .val (.long (q3 &&& (4611686018427387903 : Int64))), .second, .val (.long (((q3 &&& (4611686018427387903 : Int64)) + (1 : Int64)) + (q4 &&& (4611686018427387903 : Int64)))), .second, .val (.int (0 : Int32)), .val (.int (1 : Int32)), .val (.ref b1), .val (.int (1 : Int32)), .val (.int (0 : Int32)), .val (.int (1 : Int32)), .unset] [(.int (1 : Int32))])) _
    refine XS.istore X8.here hx rfl (hb hby at_145) rfl (l' := #[.val (.int p1), .val (.int p2), .val (.long q3), .second, .val (.long q4), .second, .val (.int (0 : Int32)), .val (.int (2 : Int32)), .val (.long (q3 &&& (4611686018427387903 : Int64))), .second, .val (.long (((q3 &&& (4611686018427387903 : Int64)) + (1 : Int64)) + (q4 &&& (4611686018427387903 : Int64)))), .second, .val (.int (0 : Int32)), .val (.int (1 : Int32)), .val (.ref b1), .val (.int (1 : Int32)), .val (.int (0 : Int32)), .val (.int (1 : Int32)), .val (.int (1 : Int32))]) rfl ?_
    show Steps p.tables e below (T8.setTop (mkF m 147 #[.val (.int p1), .val (.int p2), .val (.long q3), .second, .val (.long q4), .second, .val (.int (0 : Int32)), .val (.int (2 : Int32)), .val (.long (q3 &&& (4611686018427387903 : Int64))), .second, .val (.long (((q3 &&& (4611686018427387903 : Int64)) + (1 : Int64)) + (q4 &&& (4611686018427387903 : Int64)))), .second, .val (.int (0 : Int32)), .val (.int (1 : Int32)), .val (.ref b1), .val (.int (1 : Int32)), .val (.int (0 : Int32)), .val (.int (1 : Int32)), .val (.int (1 : Int32))] [])) _
    refine XS.iload X8.here hx rfl (hb hby at_147) rfl ?_
    show Steps p.tables e below (T8.setTop (mkF m 149 #[.val (.int p1), .val (.int p2), .val (.long q3), .second, .val (.long q4), .second, .val (.int (0 : Int32)), .val (.int (2 : Int32)), .val (.long (q3 &&& (4611686018427387903 : Int64))), .second, .val (.long (((q3 &&& (4611686018427387903 : Int64)) + (1 : Int64)) + (q4 &&& (4611686018427387903 : Int64)))), .second, .val (.int (0 : Int32)), .val (.int (1 : Int32)), .val (.ref b1), .val (.int (1 : Int32)), .val (.int (0 : Int32)), .val (.int (1 : Int32)), .val (.int (1 : Int32))] [(.int (1 : Int32))])) _
    refine XS.iload X8.here hx rfl (hb hby at_149) rfl ?_
    show Steps p.tables e below (T8.setTop (mkF m 151 #[.val (.int p1), .val (.int p2), .val (.long q3), .second, .val (.long q4), .second, .val (.int (0 : Int32)), .val (.int (2 : Int32)), .val (.long (q3 &&& (4611686018427387903 : Int64))), .second, .val (.long (((q3 &&& (4611686018427387903 : Int64)) + (1 : Int64)) + (q4 &&& (4611686018427387903 : Int64)))), .second, .val (.int (0 : Int32)), .val (.int (1 : Int32)), .val (.ref b1), .val (.int (1 : Int32)), .val (.int (0 : Int32)), .val (.int (1 : Int32)), .val (.int (1 : Int32))] [(.int (1 : Int32)), (.int (1 : Int32))])) _
    refine XS.icmpNo X8.here hx rfl (hb hby at_151) rfl (teq ((by decide) : (1 : Int32) = (1 : Int32))).2 ?_
    show Steps p.tables e below (T8.setTop (mkF m 154 #[.val (.int p1), .val (.int p2), .val (.long q3), .second, .val (.long q4), .second, .val (.int (0 : Int32)), .val (.int (2 : Int32)), .val (.long (q3 &&& (4611686018427387903 : Int64))), .second, .val (.long (((q3 &&& (4611686018427387903 : Int64)) + (1 : Int64)) + (q4 &&& (4611686018427387903 : Int64)))), .second, .val (.int (0 : Int32)), .val (.int (1 : Int32)), .val (.ref b1), .val (.int (1 : Int32)), .val (.int (0 : Int32)), .val (.int (1 : Int32)), .val (.int (1 : Int32))] [])) _
    refine XS.iload X8.here hx rfl (hb hby at_154) rfl ?_
    show Steps p.tables e below (T8.setTop (mkF m 156 #[.val (.int p1), .val (.int p2), .val (.long q3), .second, .val (.long q4), .second, .val (.int (0 : Int32)), .val (.int (2 : Int32)), .val (.long (q3 &&& (4611686018427387903 : Int64))), .second, .val (.long (((q3 &&& (4611686018427387903 : Int64)) + (1 : Int64)) + (q4 &&& (4611686018427387903 : Int64)))), .second, .val (.int (0 : Int32)), .val (.int (1 : Int32)), .val (.ref b1), .val (.int (1 : Int32)), .val (.int (0 : Int32)), .val (.int (1 : Int32)), .val (.int (1 : Int32))] [(.int (0 : Int32))])) _
    refine XS.iload X8.here hx rfl (hb hby at_156) rfl ?_
    show Steps p.tables e below (T8.setTop (mkF m 158 #[.val (.int p1), .val (.int p2), .val (.long q3), .second, .val (.long q4), .second, .val (.int (0 : Int32)), .val (.int (2 : Int32)), .val (.long (q3 &&& (4611686018427387903 : Int64))), .second, .val (.long (((q3 &&& (4611686018427387903 : Int64)) + (1 : Int64)) + (q4 &&& (4611686018427387903 : Int64)))), .second, .val (.int (0 : Int32)), .val (.int (1 : Int32)), .val (.ref b1), .val (.int (1 : Int32)), .val (.int (0 : Int32)), .val (.int (1 : Int32)), .val (.int (1 : Int32))] [(.int (0 : Int32)), (.int (0 : Int32))])) _
    refine XS.icmpNo X8.here hx rfl (hb hby at_158) rfl (teq ((by decide) : (0 : Int32) = (0 : Int32))).2 ?_
    show Steps p.tables e below (T8.setTop (mkF m 161 #[.val (.int p1), .val (.int p2), .val (.long q3), .second, .val (.long q4), .second, .val (.int (0 : Int32)), .val (.int (2 : Int32)), .val (.long (q3 &&& (4611686018427387903 : Int64))), .second, .val (.long (((q3 &&& (4611686018427387903 : Int64)) + (1 : Int64)) + (q4 &&& (4611686018427387903 : Int64)))), .second, .val (.int (0 : Int32)), .val (.int (1 : Int32)), .val (.ref b1), .val (.int (1 : Int32)), .val (.int (0 : Int32)), .val (.int (1 : Int32)), .val (.int (1 : Int32))] [])) _
    refine XS.iload X8.here hx rfl (hb hby at_161) rfl ?_
    show Steps p.tables e below (T8.setTop (mkF m 163 #[.val (.int p1), .val (.int p2), .val (.long q3), .second, .val (.long q4), .second, .val (.int (0 : Int32)), .val (.int (2 : Int32)), .val (.long (q3 &&& (4611686018427387903 : Int64))), .second, .val (.long (((q3 &&& (4611686018427387903 : Int64)) + (1 : Int64)) + (q4 &&& (4611686018427387903 : Int64)))), .second, .val (.int (0 : Int32)), .val (.int (1 : Int32)), .val (.ref b1), .val (.int (1 : Int32)), .val (.int (0 : Int32)), .val (.int (1 : Int32)), .val (.int (1 : Int32))] [(.int (1 : Int32))])) _
    refine XS.ifNo X8.here hx rfl (hb hby at_163) rfl ((if0 _ _).trans (feq ((by decide) : ¬ ((1 : Int32) = (0 : Int32)))).1) ?_
    show Steps p.tables e below (T8.setTop (mkF m 166 #[.val (.int p1), .val (.int p2), .val (.long q3), .second, .val (.long q4), .second, .val (.int (0 : Int32)), .val (.int (2 : Int32)), .val (.long (q3 &&& (4611686018427387903 : Int64))), .second, .val (.long (((q3 &&& (4611686018427387903 : Int64)) + (1 : Int64)) + (q4 &&& (4611686018427387903 : Int64)))), .second, .val (.int (0 : Int32)), .val (.int (1 : Int32)), .val (.ref b1), .val (.int (1 : Int32)), .val (.int (0 : Int32)), .val (.int (1 : Int32)), .val (.int (1 : Int32))] [])) _
    refine XS.iload X8.here hx rfl (hb hby at_166) rfl ?_
    show Steps p.tables e below (T8.setTop (mkF m 168 #[.val (.int p1), .val (.int p2), .val (.long q3), .second, .val (.long q4), .second, .val (.int (0 : Int32)), .val (.int (2 : Int32)), .val (.long (q3 &&& (4611686018427387903 : Int64))), .second, .val (.long (((q3 &&& (4611686018427387903 : Int64)) + (1 : Int64)) + (q4 &&& (4611686018427387903 : Int64)))), .second, .val (.int (0 : Int32)), .val (.int (1 : Int32)), .val (.ref b1), .val (.int (1 : Int32)), .val (.int (0 : Int32)), .val (.int (1 : Int32)), .val (.int (1 : Int32))] [(.int (1 : Int32))])) _
    refine XS.ifNo X8.here hx rfl (hb hby at_168) rfl ((if0 _ _).trans (feq ((by decide) : ¬ ((1 : Int32) = (0 : Int32)))).1) ?_
    show Steps p.tables e below (T8.setTop (mkF m 171 #[.val (.int p1), .val (.int p2), .val (.long q3), .second, .val (.long q4), .second, .val (.int (0 : Int32)), .val (.int (2 : Int32)), .val (.long (q3 &&& (4611686018427387903 : Int64))), .second, .val (.long (((q3 &&& (4611686018427387903 : Int64)) + (1 : Int64)) + (q4 &&& (4611686018427387903 : Int64)))), .second, .val (.int (0 : Int32)), .val (.int (1 : Int32)), .val (.ref b1), .val (.int (1 : Int32)), .val (.int (0 : Int32)), .val (.int (1 : Int32)), .val (.int (1 : Int32))] [])) _
    refine XS.aload X8.here hx rfl (hb hby at_171) rfl rfl ?_
    show Steps p.tables e below (T8.setTop (mkF m 173 #[.val (.int p1), .val (.int p2), .val (.long q3), .second, .val (.long q4), .second, .val (.int (0 : Int32)), .val (.int (2 : Int32)), .val (.long (q3 &&& (4611686018427387903 : Int64))), .second, .val (.long (((q3 &&& (4611686018427387903 : Int64)) + (1 : Int64)) + (q4 &&& (4611686018427387903 : Int64)))), .second, .val (.int (0 : Int32)), .val (.int (1 : Int32)), .val (.ref b1), .val (.int (1 : Int32)), .val (.int (0 : Int32)), .val (.int (1 : Int32)), .val (.int (1 : Int32))] [(.ref b1)])) _
    refine st9.trans ?_
    show Steps p.tables e below (T9.setTop (mkF m 176 #[.val (.int p1), .val (.int p2), .val (.long q3), .second, .val (.long q4), .second, .val (.int (0 : Int32)), .val (.int (2 : Int32)), .val (.long (q3 &&& (4611686018427387903 : Int64))), .second, .val (.long (((q3 &&& (4611686018427387903 : Int64)) + (1 : Int64)) + (q4 &&& (4611686018427387903 : Int64)))), .second, .val (.int (0 : Int32)), .val (.int (1 : Int32)), .val (.ref b1), .val (.int (1 : Int32)), .val (.int (0 : Int32)), .val (.int (1 : Int32)), .val (.int (1 : Int32))] [(.int (0 : Int32))])) _
    refine XS.iload X9.here hx rfl (hb hby at_176) rfl ?_
    show Steps p.tables e below (T9.setTop (mkF m 178 #[.val (.int p1), .val (.int p2), .val (.long q3), .second, .val (.long q4), .second, .val (.int (0 : Int32)), .val (.int (2 : Int32)), .val (.long (q3 &&& (4611686018427387903 : Int64))), .second, .val (.long (((q3 &&& (4611686018427387903 : Int64)) + (1 : Int64)) + (q4 &&& (4611686018427387903 : Int64)))), .second, .val (.int (0 : Int32)), .val (.int (1 : Int32)), .val (.ref b1), .val (.int (1 : Int32)), .val (.int (0 : Int32)), .val (.int (1 : Int32)), .val (.int (1 : Int32))] [(.int (0 : Int32)), (.int (0 : Int32))])) _
    refine XS.icmpNo X9.here hx rfl (hb hby at_178) rfl (teq ((by decide) : (0 : Int32) = (0 : Int32))).2 ?_
    show Steps p.tables e below (T9.setTop (mkF m 181 #[.val (.int p1), .val (.int p2), .val (.long q3), .second, .val (.long q4), .second, .val (.int (0 : Int32)), .val (.int (2 : Int32)), .val (.long (q3 &&& (4611686018427387903 : Int64))), .second, .val (.long (((q3 &&& (4611686018427387903 : Int64)) + (1 : Int64)) + (q4 &&& (4611686018427387903 : Int64)))), .second, .val (.int (0 : Int32)), .val (.int (1 : Int32)), .val (.ref b1), .val (.int (1 : Int32)), .val (.int (0 : Int32)), .val (.int (1 : Int32)), .val (.int (1 : Int32))] [])) _
    refine XS.aload X9.here hx rfl (hb hby at_181) rfl rfl ?_
    show Steps p.tables e below (T9.setTop (mkF m 183 #[.val (.int p1), .val (.int p2), .val (.long q3), .second, .val (.long q4), .second, .val (.int (0 : Int32)), .val (.int (2 : Int32)), .val (.long (q3 &&& (4611686018427387903 : Int64))), .second, .val (.long (((q3 &&& (4611686018427387903 : Int64)) + (1 : Int64)) + (q4 &&& (4611686018427387903 : Int64)))), .second, .val (.int (0 : Int32)), .val (.int (1 : Int32)), .val (.ref b1), .val (.int (1 : Int32)), .val (.int (0 : Int32)), .val (.int (1 : Int32)), .val (.int (1 : Int32))] [(.ref b1)])) _
    refine st10.trans ?_
    show Steps p.tables e below (T10.setTop (mkF m 186 #[.val (.int p1), .val (.int p2), .val (.long q3), .second, .val (.long q4), .second, .val (.int (0 : Int32)), .val (.int (2 : Int32)), .val (.long (q3 &&& (4611686018427387903 : Int64))), .second, .val (.long (((q3 &&& (4611686018427387903 : Int64)) + (1 : Int64)) + (q4 &&& (4611686018427387903 : Int64)))), .second, .val (.int (0 : Int32)), .val (.int (1 : Int32)), .val (.ref b1), .val (.int (1 : Int32)), .val (.int (0 : Int32)), .val (.int (1 : Int32)), .val (.int (1 : Int32))] [(.ref b10)])) _
    refine X10.arraylength hx Ar11.1 (State.isArrayOf_alike hZ.alike Ar11.2.1) (g := (mkF m 186 #[.val (.int p1), .val (.int p2), .val (.long q3), .second, .val (.long q4), .second, .val (.int (0 : Int32)), .val (.int (2 : Int32)), .val (.long (q3 &&& (4611686018427387903 : Int64))), .second, .val (.long (((q3 &&& (4611686018427387903 : Int64)) + (1 : Int64)) + (q4 &&& (4611686018427387903 : Int64)))), .second, .val (.int (0 : Int32)), .val (.int (1 : Int32)), .val (.ref b1), .val (.int (1 : Int32)), .val (.int (0 : Int32)), .val (.int (1 : Int32)), .val (.int (1 : Int32))] [(.ref b10)])) rfl rfl (hb hby at_186) _ ?_
    rw [len_of Sz11 Nz11]
    show Steps p.tables e below (T10.setTop (mkF m 187 #[.val (.int p1), .val (.int p2), .val (.long q3), .second, .val (.long q4), .second, .val (.int (0 : Int32)), .val (.int (2 : Int32)), .val (.long (q3 &&& (4611686018427387903 : Int64))), .second, .val (.long (((q3 &&& (4611686018427387903 : Int64)) + (1 : Int64)) + (q4 &&& (4611686018427387903 : Int64)))), .second, .val (.int (0 : Int32)), .val (.int (1 : Int32)), .val (.ref b1), .val (.int (1 : Int32)), .val (.int (0 : Int32)), .val (.int (1 : Int32)), .val (.int (1 : Int32))] [(.int (0 : Int32))])) _
    refine XS.ifNo X10.here hx rfl (hb hby at_187) rfl ((if0 _ _).trans (teq ((by decide) : (0 : Int32) = (0 : Int32))).2) ?_
    show Steps p.tables e below (T10.setTop (mkF m 190 #[.val (.int p1), .val (.int p2), .val (.long q3), .second, .val (.long q4), .second, .val (.int (0 : Int32)), .val (.int (2 : Int32)), .val (.long (q3 &&& (4611686018427387903 : Int64))), .second, .val (.long (((q3 &&& (4611686018427387903 : Int64)) + (1 : Int64)) + (q4 &&& (4611686018427387903 : Int64)))), .second, .val (.int (0 : Int32)), .val (.int (1 : Int32)), .val (.ref b1), .val (.int (1 : Int32)), .val (.int (0 : Int32)), .val (.int (1 : Int32)), .val (.int (1 : Int32))] [])) _
    refine XS.iconst X10.here hx rfl (hb hby at_190) ?_
    show Steps p.tables e below (T10.setTop (mkF m 191 #[.val (.int p1), .val (.int p2), .val (.long q3), .second, .val (.long q4), .second, .val (.int (0 : Int32)), .val (.int (2 : Int32)), .val (.long (q3 &&& (4611686018427387903 : Int64))), .second, .val (.long (((q3 &&& (4611686018427387903 : Int64)) + (1 : Int64)) + (q4 &&& (4611686018427387903 : Int64)))), .second, .val (.int (0 : Int32)), .val (.int (1 : Int32)), .val (.ref b1), .val (.int (1 : Int32)), .val (.int (0 : Int32)), .val (.int (1 : Int32)), .val (.int (1 : Int32))] [(.int (1 : Int32))])) _
    refine XS.goto X10.here hx rfl (pc0 := 191) (pc' := 195) rfl (hb hby at_191) (by decide) (by decide) ?_
    show Steps p.tables e below (T10.setTop (mkF m 195 #[.val (.int p1), .val (.int p2), .val (.long q3), .second, .val (.long q4), .second, .val (.int (0 : Int32)), .val (.int (2 : Int32)), .val (.long (q3 &&& (4611686018427387903 : Int64))), .second, .val (.long (((q3 &&& (4611686018427387903 : Int64)) + (1 : Int64)) + (q4 &&& (4611686018427387903 : Int64)))), .second, .val (.int (0 : Int32)), .val (.int (1 : Int32)), .val (.ref b1), .val (.int (1 : Int32)), .val (.int (0 : Int32)), .val (.int (1 : Int32)), .val (.int (1 : Int32))] [(.int (1 : Int32))])) _
    exact retN X10 hx (t := .boolean) Bd.returns (by simp) (hb hby at_195) hr
  · show Q0 n0 _ T10.heap _
    exact ⟨rfl, N10⟩
theorem rm0 (l : Launch) (Z : State) (a0 : Array Value) (hw : ∀ d ∈ tables_1, d.before a0 Z = true) (ws : List Jvm.Cond) {w_n2 : Addr} {w_n3 : Addr} {w_n4 : Addr} {w_n1 : Addr} {v_n0 : Int32} (W : Wd Z w_n2 w_n3 w_n4 w_n1 v_n0) (p1 : Int32) (p2 : Int32) (q3 : Int64) (q4 : Int64) (h0 : Heap) (n0 : Nat) (O0 : Old Z n0 h0) :
    MetFree l x (head1 (Jvm.Cond.code x code maxLocals ret :: ws) room_1) (fun a U => a = #[(.int p1), (.int p2), (.long q3), (.long q4)] ∧ Z.Warmed39 U.vm ∧ U.heap = h0) (fun _ _ _ _ _ => True) (fun _ U o U' => ∃ v L, o = .returned v ∧ Q0 n0 v U'.heap L ∧ FrameEnd U o U' L room_1.cells room_1.slots) := by
  have e : (p1 &&& (2147483647 : Int32)).toInt = p1.toInt % (2 ^ 31 : Nat) := c_mask p1 2147483647 31 (by decide) (by decide)
  have r := (c_irem (p1 &&& (2147483647 : Int32)) (3 : Int32) 3 rfl).1 (by rw [e]; omega)
  have c : ((p1 &&& (2147483647 : Int32)) % (3 : Int32)) = (0 : Int32) ∨ ((p1 &&& (2147483647 : Int32)) % (3 : Int32)) = (1 : Int32) ∨ ((p1 &&& (2147483647 : Int32)) % (3 : Int32)) = (2 : Int32) := by
    simp only [← Int32.toInt_inj]
    have q0 : (0 : Int32).toInt = 0 := rfl
    have q1 : (1 : Int32).toInt = 1 := rfl
    have q2 : (2 : Int32).toInt = 2 := rfl
    omega
  have z0 : (0 : Int64).toInt = 0 := rfl
  have z1 : (1 : Int64).toInt = 1 := rfl
  rcases c with h | h | h
  · exact rm0_0 l Z a0 hw ws W p1 p2 q3 q4 h0 n0 O0 h
  · have xm : ¬ ((0 : Int32) < (lcmpW (0 : Int64) ((p2 &&& (2147483647 : Int32)).toInt64))) := by
      rw [lw_gt, Int64.lt_iff_toInt_lt, c_i2l]
      have := c_mask p2 2147483647 31 (by decide) (by decide)
      omega
    by_cases q : q3 < 0
    · exact rm0_1b l Z a0 hw ws W p1 p2 q3 q4 h0 n0 O0 h xm ((lw_lt _ _).2 q) ((lw_gt _ _).2 q)
    · exact rm0_1a l Z a0 hw ws W p1 p2 q3 q4 h0 n0 O0 h xm (fun z => q ((lw_lt _ _).1 z)) (fun z => q ((lw_gt _ _).1 z))
  · have m3 : ((q3 &&& (4611686018427387903 : Int64))).toInt = q3.toInt % (2 ^ 62 : Nat) := c_maskL q3 (4611686018427387903 : Int64) 62 (by decide) (by decide)
    have m4 : (q4 &&& (4611686018427387903 : Int64)).toInt = q4.toInt % (2 ^ 62 : Nat) := c_maskL q4 (4611686018427387903 : Int64) 62 (by decide) (by decide)
    have a1 := c_ladd ((q3 &&& (4611686018427387903 : Int64))) 1
    have a2 := c_ladd ((q3 &&& (4611686018427387903 : Int64)) + (1 : Int64)) (q4 &&& (4611686018427387903 : Int64))
    have r1 := rng64 ((q3 &&& (4611686018427387903 : Int64)) + (1 : Int64))
    have r2 := rng64 (((q3 &&& (4611686018427387903 : Int64)) + (1 : Int64)) + (q4 &&& (4611686018427387903 : Int64)))
    have f : ((((q3 &&& (4611686018427387903 : Int64)) + (1 : Int64)) + (q4 &&& (4611686018427387903 : Int64)))).toInt = ((q3 &&& (4611686018427387903 : Int64))).toInt + 1 + (q4 &&& (4611686018427387903 : Int64)).toInt := by omega
    have e0 : (0 : Int64) + ((((q3 &&& (4611686018427387903 : Int64)) + (1 : Int64)) + (q4 &&& (4611686018427387903 : Int64))) - (0 : Int64)) = (((q3 &&& (4611686018427387903 : Int64)) + (1 : Int64)) + (q4 &&& (4611686018427387903 : Int64))) := by simp
    refine rm0_2 l Z a0 hw ws W p1 p2 q3 q4 h0 n0 O0 h (fun z => ?_) (fun z => ?_) ?_ ?_
    · have := congrArg Int64.toInt ((lw_eq _ _).1 z)
      have y : (-1 : Int64).toInt = -1 := rfl
      omega
    · have := congrArg Int64.toInt ((lw_eq _ _).1 z)
      have y : (-2 : Int64).toInt = -2 := rfl
      omega
    · rw [lw_gt, Int64.lt_iff_toInt_lt]; omega
    · rw [e0, lw_gt, Int64.lt_iff_toInt_lt]; omega
set_option maxRecDepth 65536 in
set_option maxHeartbeats 40000000 in
theorem comes_1 {Post : Tables → Env → Array Value → State → Outcome → State → Prop} (hpost : ∀ tb e args s v u, (limb_1_1.after args s (.returned v) u = true ∧ limb_1_2.after args s (.returned v) u = true ∧ True) → FrameEnd s (.returned v) u (Jvm.fieldLocs frame_1_writes args s ++ Jvm.arrayLocs frame_1_arrays args s ++ Jvm.staticLocs frame_1_statics s) 24 256 → Post tb e args s (.returned v) u) :
    ArmFor flags0 classFile x code maxLocals ret World_1 tables_1 room_1 Calls_1 rest_1 Pre_1 Post := by
  intro l hfl _ _ p e ha hc hk s m args below hf hA hF happ hP
  obtain ⟨hcalls, hrest, hpre⟩ := hP
  obtain ⟨-, -, -, hnamed, -, -, -, hat⟩ := (Spec.applies_iff hf).mp happ
  obtain ⟨hg, hn⟩ := and_e (Cond.before_iff.mp (show (Jvm.Cond.and given_1 narrow_1).before args s = true from hpre))
  obtain ⟨g0, r0⟩ := and_e hg
  obtain ⟨g1, r1⟩ := and_e r0
  obtain ⟨g2, r2⟩ := and_e r1
  obtain ⟨g3, r3⟩ := and_e r2
  have g4 := r3
  obtain ⟨w0, w1, w2, w3, rfl⟩ : ∃ w0 w1 w2 w3 : Value, args = #[w0, w1, w2, w3] := by
    have hs : args.size = 4 := by simpa [Cond.value, given_1] using g0
    obtain ⟨L⟩ := args
    match L, hs with
    | [w0, w1, w2, w3], _ => exact ⟨w0, w1, w2, w3, rfl⟩
  have hw := fun d (hd : d ∈ tables_1) => atoms_spec (ws := Jvm.Cond.code x code maxLocals ret :: tables_1) hat d (List.mem_cons_of_mem _ hd)
  have hfit : Fit s := fun {y c} hc i hi => by
    obtain ⟨ha, rfl⟩ := Array.getElem?_eq_some_iff.mp hc
    have q := List.all_eq_true.mp ((Array.all_eq_true_iff_forall_mem.mp hF) _ (Array.getElem_mem ha)) i (List.mem_range.mpr hi)
    simpa [Array.getElem?_eq_getElem hi] using q
  obtain ⟨hsets, hown0⟩ := atoms_of _ (rest_1_c_eq ▸ (show rest_1_c.before _ s = true from hrest))
  have hr0 := Cond.before_iff.mp hown0
  obtain ⟨i0, ei0⟩ := is_v g1
  obtain rfl : w0 = (.int i0) := Option.some.inj ei0
  obtain ⟨i1, ei1⟩ := is_v g2
  obtain rfl : w1 = (.int i1) := Option.some.inj ei1
  obtain ⟨i2, ei2⟩ := isL_v g3
  obtain rfl : w2 = (.long i2) := Option.some.inj ei2
  obtain ⟨i3, ei3⟩ := isL_v g4
  obtain rfl : w3 = (.long i3) := Option.some.inj ei3
  obtain ⟨w_n2, w_n3, w_n4, w_n1, v_n0, W⟩ := wd_start hfit hw hsets hn
  obtain ⟨n, o, h1, h2, h3, _, L, rfl, ⟨rfl, N⟩, hq⟩ := rm0 l s _ hw tables_1 W i0 i1 i2 i3 s.heap s.heap.size (Old.start s) p e ha hc hk s m _ below hf ((Spec.applies_iff_loose hf).mp happ).1 ⟨rfl, State.Warmed39.refl s, rfl⟩ trivial
  refine ⟨n, _, h1, h2, h3, hpost _ _ _ _ _ _ ⟨Cond.after_iff.mpr rfl, Cond.after_iff.mpr (eq_i res_at (Term.int_eval (1)) rfl), trivial⟩ ⟨hq.1, hq.2.1, (hq.2.2.sift fun y hy => Or.inr (N y hy)).mono (by decide) (by decide)⟩⟩
theorem main_1_1 : Claimed_1_1 := comes_1 fun _ _ _ _ _ _ h hF => ⟨h.1, hF⟩
theorem main_1_2 : Claimed_1_2 := comes_1 fun _ _ _ _ _ _ h hF => ⟨h.2.1, hF⟩
end Jvm.Pilot.@@N@@
namespace Jvm.Pilot.@@N@@
open Jvm Jvm.ClassFile Sem Op Lib Jvm.Free Jvm.Stand Jvm.Pilot.@@N@@.Jvm.D
/-! MADE BY PROGRAM (witnessworld.py) out of the Statement's table words and the real class files: 32 classes; the members and pool entries that the words name. The judged class is class 1, her method 1. -/
namespace start1
open Jvm.ClassFile
def u (s : String) : CpInfo := .utf8 (stringToUtf16 s)
/-- a pool by its gaps: so many unusable entries, then the entry; so many at the end -/
def gap : Nat → List CpInfo → List CpInfo
  | 0, r => r
  | n + 1, r => .unusable :: gap n r
def poolList (es : List (Nat × CpInfo)) (last : Nat) : List CpInfo := es.foldr (fun e r => gap e.1 (e.2 :: r)) (gap last [])
def pool (es : List (Nat × CpInfo)) (last : Nat) : Array CpInfo := ⟨poolList es last⟩
def fileOf (pool : Array CpInfo) (this : Nat) (attrs : Array Attribute := #[]) (ms : Array MethodInfo := #[]) (fl : Nat := 33) (sup : Nat := 0) (ifs : Array Nat := #[]) (fds : Array FieldInfo := #[]) : ClassFile where
  minorVersion := 0
  majorVersion := 65
  constantPool := pool
  accessFlags := fl
  thisClass := this
  superClass := sup
  interfaces := ifs
  fields := fds
  methods := ms
  attributes := attrs
def plain (name : String) (sup : Option ClassId) : Class where
  name := name
  kind := .ordinary
  loader := none
  accessFlags := 33
  super := sup
  interfaces := #[]
  cf := none
  fields := #[]
  methods := #[]
  instanceTypes := #[]
  staticTypes := #[]
  resolved := #[]
  callSites := []
  init := .initialized
  statics := none
  mirror := none

def pool0 : Array CpInfo := pool [(5, u "<init>"), (0, u "()V"), (1, .class_ 10), (1, u "java/lang/Object")] 113

def k0c0 : Code := { maxStack := 0, maxLocals := 1, code := object_method_1_code, exceptionTable := #[], attributes := #[] }
def k0m0 : Method := { name := "<init>", desc := "()V", sig := { parameters := [], returnType := none }, accessFlags := 1, code := some k0c0 }
/-- java/lang/Object -/
def k0 : Class := { plain "java/lang/Object" none with
  accessFlags := 33
  interfaces := #[]
  cf := some (fileOf pool0 8 #[] #[{ accessFlags := 1, nameIndex := 5, descriptorIndex := 6, attributes := #[] }] 33 0 #[] #[])
  fields := #[]
  methods := #[k0m0]
  instanceTypes := #[]
  staticTypes := #[]
  resolved := Array.replicate 124 none
  statics := none }

def pool1 : Array CpInfo := pool [(2, .class_ 4), (1, u "java/lang/Object"), (0, u "<init>"), (0, u "()V"), (0, .integer 2147483647), (2, .long 18446744073709551614), (1, .long 4611686018427387903), (1, .class_ 15), (0, u "com/example/tillwire/tillwire/HttpFraming$BodyReader"), (0, .methodref 14 17), (0, .nameAndType 5 18), (0, u "(JIJ)V"), (0, .methodref 14 20), (0, .nameAndType 21 22), (0, u "done"), (0, u "()Z"), (0, .methodref 14 24), (0, .nameAndType 25 22), (0, u "whole"), (0, .methodref 14 27), (0, .nameAndType 28 6), (0, u "end"), (0, .methodref 14 30), (0, .nameAndType 31 32), (0, u "bytes"), (0, u "()[B"), (0, .class_ 34), (0, u "com/example/tillwire/tillwire/BodyReaderEndPinLaw"), (2, u "law"), (0, u "(IIJJ)Z")] 8

def k1m0 : Method := { name := "<init>", desc := "()V", sig := { parameters := [], returnType := none }, accessFlags := 1, code := none }
def k1c1 : Code := { maxStack := 7, maxLocals := 19, code := code, exceptionTable := #[], attributes := #[] }
def k1m1 : Method := { name := "law", desc := "(IIJJ)Z", sig := { parameters := [.int, .int, .long, .long], returnType := some .boolean }, accessFlags := 9, code := some k1c1 }
/-- com/example/tillwire/tillwire/BodyReaderEndPinLaw -/
def k1 : Class := { plain "com/example/tillwire/tillwire/BodyReaderEndPinLaw" (some 0) with
  accessFlags := 49
  interfaces := #[]
  cf := some (fileOf pool1 33 #[] #[{ accessFlags := 1, nameIndex := 5, descriptorIndex := 6, attributes := #[] }, { accessFlags := 9, nameIndex := 37, descriptorIndex := 38, attributes := #[] }] 49 2 #[] #[])
  fields := #[]
  methods := #[k1m0, k1m1]
  instanceTypes := #[]
  staticTypes := #[]
  resolved := Array.replicate 47 none
  statics := none }

def pool2 : Array CpInfo := pool [(1, .class_ 2), (0, u "com/example/tillwire/tillwire/HttpFraming"), (0, .methodref 4 5), (0, .class_ 6), (0, .nameAndType 7 8), (0, u "java/lang/Object"), (0, u "<init>"), (0, u "()V"), (0, .class_ 10), (0, u "java/io/ByteArrayOutputStream"), (0, .methodref 9 5), (0, .fieldref 13 14), (0, .class_ 15), (0, .nameAndType 16 17), (0, u "com/example/tillwire/tillwire/HttpFraming$BodyReader"), (0, u "kept"), (0, u "Ljava/io/ByteArrayOutputStream;"), (0, .class_ 19), (0, u "com/example/tillwire/tillwire/HttpFraming$Line"), (0, .methodref 18 5), (0, .fieldref 13 22), (0, .nameAndType 23 24), (0, u "line"), (0, u "Lcom/example/tillwire/tillwire/HttpFraming$Line;"), (0, .fieldref 13 26), (0, .nameAndType 27 28), (0, u "whole"), (0, u "Z"), (0, .long 18446744073709551615), (1, .fieldref 13 32), (0, .nameAndType 33 28), (0, u "chunked"), (0, .fieldref 13 35), (0, .nameAndType 36 37), (0, u "keep"), (0, u "I"), (0, .fieldref 13 39), (0, .nameAndType 40 41), (0, u "skip"), (0, u "J"), (1, .class_ 45), (1, u "com/example/tillwire/tillwire/HttpFraming$BodyReader$Part"), (1, u "Lcom/example/tillwire/tillwire/HttpFraming$BodyReader$Part;"), (4, .long 18446744073709551614), (1, .fieldref 43 55), (0, .nameAndType 56 47), (0, u "TO_END"), (0, .fieldref 13 58), (0, .nameAndType 59 47), (0, u "part"), (0, .methodref 61 62), (0, .class_ 63), (0, .nameAndType 64 65), (0, u "java/lang/Math"), (0, u "min"), (0, u "(JJ)J"), (0, .fieldref 13 67), (0, .nameAndType 68 41), (0, u "passed"), (0, .fieldref 43 70), (0, .nameAndType 71 47), (0, u "KEPT"), (0, .fieldref 13 73), (0, .nameAndType 74 41), (0, u "left"), (0, .methodref 13 76), (0, .nameAndType 77 8), (0, u "endKept"), (0, .fieldref 43 79), (0, .nameAndType 80 47), (0, u "DONE"), (5, u "()Z"), (14, u "budget"), (0, u "Lcom/example/tillwire/tillwire/HttpFraming$Budget;"), (30, u "done"), (5, .methodref 9 140), (0, .nameAndType 141 142), (0, u "toByteArray"), (0, u "()[B"), (7, .fieldref 13 151), (0, .nameAndType 152 41), (0, u "skipped"), (0, .fieldref 43 154), (0, .nameAndType 155 47), (0, u "SKIPPED"), (0, .methodref 13 157), (0, .nameAndType 158 8), (0, u "endSkipped"), (90, u "(JIJ)V"), (5, u "end"), (0, u "bytes")] 22

def k2c0 : Code := { maxStack := 5, maxLocals := 8, code := prog_23_method_1_code, exceptionTable := #[], attributes := #[] }
def k2m0 : Method := { name := "<init>", desc := "(JIJ)V", sig := { parameters := [.long, .int, .long], returnType := none }, accessFlags := 0, code := some k2c0 }
def k2c1 : Code := { maxStack := 2, maxLocals := 1, code := prog_23_method_3_code, exceptionTable := #[], attributes := #[] }
def k2m1 : Method := { name := "done", desc := "()Z", sig := { parameters := [], returnType := some .boolean }, accessFlags := 0, code := some k2c1 }
def k2c2 : Code := { maxStack := 3, maxLocals := 1, code := prog_23_method_4_code, exceptionTable := #[], attributes := #[] }
def k2m2 : Method := { name := "end", desc := "()V", sig := { parameters := [], returnType := none }, accessFlags := 0, code := some k2c2 }
def k2c3 : Code := { maxStack := 1, maxLocals := 1, code := prog_23_method_5_code, exceptionTable := #[], attributes := #[] }
def k2m3 : Method := { name := "bytes", desc := "()[B", sig := { parameters := [], returnType := some (.array .byte) }, accessFlags := 0, code := some k2c3 }
def k2c4 : Code := { maxStack := 1, maxLocals := 1, code := prog_23_method_6_code, exceptionTable := #[], attributes := #[] }
def k2m4 : Method := { name := "whole", desc := "()Z", sig := { parameters := [], returnType := some .boolean }, accessFlags := 0, code := some k2c4 }
def k2c5 : Code := { maxStack := 5, maxLocals := 1, code := prog_23_method_8_code, exceptionTable := #[], attributes := #[] }
def k2m5 : Method := { name := "endKept", desc := "()V", sig := { parameters := [], returnType := none }, accessFlags := 2, code := some k2c5 }
def k2c6 : Code := { maxStack := 4, maxLocals := 1, code := prog_23_method_10_code, exceptionTable := #[], attributes := #[] }
def k2m6 : Method := { name := "endSkipped", desc := "()V", sig := { parameters := [], returnType := none }, accessFlags := 2, code := some k2c6 }
/-- com/example/tillwire/tillwire/HttpFraming$BodyReader -/
def k2 : Class := { plain "com/example/tillwire/tillwire/HttpFraming$BodyReader" (some 0) with
  accessFlags := 48
  interfaces := #[]
  cf := some (fileOf pool2 13 #[.nestHost 1] #[{ accessFlags := 0, nameIndex := 7, descriptorIndex := 249, attributes := #[] }, { accessFlags := 0, nameIndex := 133, descriptorIndex := 86, attributes := #[] }, { accessFlags := 0, nameIndex := 255, descriptorIndex := 8, attributes := #[] }, { accessFlags := 0, nameIndex := 256, descriptorIndex := 142, attributes := #[] }, { accessFlags := 0, nameIndex := 27, descriptorIndex := 86, attributes := #[] }, { accessFlags := 2, nameIndex := 77, descriptorIndex := 8, attributes := #[] }, { accessFlags := 2, nameIndex := 158, descriptorIndex := 8, attributes := #[] }] 48 4 #[] #[{ accessFlags := 18, nameIndex := 33, descriptorIndex := 28, attributes := #[] }, { accessFlags := 18, nameIndex := 36, descriptorIndex := 37, attributes := #[] }, { accessFlags := 18, nameIndex := 40, descriptorIndex := 41, attributes := #[] }, { accessFlags := 18, nameIndex := 16, descriptorIndex := 17, attributes := #[] }, { accessFlags := 18, nameIndex := 23, descriptorIndex := 24, attributes := #[] }, { accessFlags := 2, nameIndex := 59, descriptorIndex := 47, attributes := #[] }, { accessFlags := 2, nameIndex := 101, descriptorIndex := 102, attributes := #[] }, { accessFlags := 2, nameIndex := 74, descriptorIndex := 41, attributes := #[] }, { accessFlags := 2, nameIndex := 152, descriptorIndex := 41, attributes := #[] }, { accessFlags := 2, nameIndex := 68, descriptorIndex := 41, attributes := #[] }, { accessFlags := 2, nameIndex := 27, descriptorIndex := 28, attributes := #[] }])
  fields := #[{ name := "chunked", type := .boolean, accessFlags := 18, slot := 0, constantValue := 0 }, { name := "keep", type := .int, accessFlags := 18, slot := 1, constantValue := 0 }, { name := "skip", type := .long, accessFlags := 18, slot := 2, constantValue := 0 }, { name := "kept", type := (.object "java/io/ByteArrayOutputStream"), accessFlags := 18, slot := 3, constantValue := 0 }, { name := "line", type := (.object "com/example/tillwire/tillwire/HttpFraming$Line"), accessFlags := 18, slot := 4, constantValue := 0 }, { name := "part", type := (.object "com/example/tillwire/tillwire/HttpFraming$BodyReader$Part"), accessFlags := 2, slot := 5, constantValue := 0 }, { name := "budget", type := (.object "com/example/tillwire/tillwire/HttpFraming$Budget"), accessFlags := 2, slot := 6, constantValue := 0 }, { name := "left", type := .long, accessFlags := 2, slot := 7, constantValue := 0 }, { name := "skipped", type := .long, accessFlags := 2, slot := 8, constantValue := 0 }, { name := "passed", type := .long, accessFlags := 2, slot := 9, constantValue := 0 }, { name := "whole", type := .boolean, accessFlags := 2, slot := 10, constantValue := 0 }]
  methods := #[k2m0, k2m1, k2m2, k2m3, k2m4, k2m5, k2m6]
  instanceTypes := #[.boolean, .int, .long, (.object "java/io/ByteArrayOutputStream"), (.object "com/example/tillwire/tillwire/HttpFraming$Line"), (.object "com/example/tillwire/tillwire/HttpFraming$BodyReader$Part"), (.object "com/example/tillwire/tillwire/HttpFraming$Budget"), .long, .long, .long, .boolean]
  staticTypes := #[]
  resolved := Array.replicate 279 none
  statics := none }

def pool3 : Array CpInfo := pool [(1, .class_ 2), (0, u "java/lang/AutoCloseable"), (0, .class_ 4), (0, u "java/lang/Object")] 7

/-- java/lang/AutoCloseable -/
def k3 : Class := { plain "java/lang/AutoCloseable" (some 0) with
  accessFlags := 1537
  interfaces := #[]
  cf := some (fileOf pool3 1 #[] #[] 1537 3 #[] #[])
  fields := #[]
  methods := #[]
  instanceTypes := #[]
  staticTypes := #[]
  resolved := Array.replicate 12 none
  statics := none }

def pool4 : Array CpInfo := pool [(1, .class_ 2), (0, u "java/io/Closeable"), (0, .class_ 4), (0, u "java/lang/Object"), (0, .class_ 6), (0, u "java/lang/AutoCloseable")] 7

/-- java/io/Closeable -/
def k4 : Class := { plain "java/io/Closeable" (some 0) with
  accessFlags := 1537
  interfaces := #[3]
  cf := some (fileOf pool4 1 #[] #[] 1537 3 #[5] #[])
  fields := #[]
  methods := #[]
  instanceTypes := #[]
  staticTypes := #[]
  resolved := Array.replicate 14 none
  statics := none }

def pool5 : Array CpInfo := pool [(1, .class_ 2), (0, u "java/io/Flushable"), (0, .class_ 4), (0, u "java/lang/Object")] 7

/-- java/io/Flushable -/
def k5 : Class := { plain "java/io/Flushable" (some 0) with
  accessFlags := 1537
  interfaces := #[]
  cf := some (fileOf pool5 1 #[] #[] 1537 3 #[] #[])
  fields := #[]
  methods := #[]
  instanceTypes := #[]
  staticTypes := #[]
  resolved := Array.replicate 12 none
  statics := none }

def pool6 : Array CpInfo := pool [(1, .methodref 2 3), (0, .class_ 4), (0, .nameAndType 5 6), (0, u "java/lang/Object"), (0, u "<init>"), (0, u "()V"), (0, .class_ 8), (0, u "java/io/OutputStream$1"), (2, .class_ 13), (1, u "java/io/OutputStream"), (11, .class_ 26), (0, u "java/io/Closeable"), (0, .class_ 28), (0, u "java/io/Flushable")] 24

def k6c0 : Code := { maxStack := 1, maxLocals := 1, code := jdk_2038_method_1_code, exceptionTable := #[], attributes := #[] }
def k6m0 : Method := { name := "<init>", desc := "()V", sig := { parameters := [], returnType := none }, accessFlags := 1, code := some k6c0 }
/-- java/io/OutputStream -/
def k6 : Class := { plain "java/io/OutputStream" (some 0) with
  accessFlags := 1057
  interfaces := #[4, 5]
  cf := some (fileOf pool6 11 #[.nestMembers #[7]] #[{ accessFlags := 1, nameIndex := 5, descriptorIndex := 6, attributes := #[] }] 1057 2 #[25, 27] #[])
  fields := #[]
  methods := #[k6m0]
  instanceTypes := #[]
  staticTypes := #[]
  resolved := Array.replicate 53 none
  statics := none }

def pool7 : Array CpInfo := pool [(1, .methodref 2 3), (0, .class_ 4), (0, .nameAndType 5 6), (0, u "java/io/ByteArrayOutputStream"), (0, u "<init>"), (0, u "(I)V"), (0, .methodref 8 9), (0, .class_ 10), (0, .nameAndType 5 11), (0, u "java/io/OutputStream"), (0, u "()V"), (21, .fieldref 2 34), (0, .nameAndType 35 36), (0, u "buf"), (0, u "[B"), (6, .methodref 44 45), (0, .class_ 46), (0, .nameAndType 47 48), (0, u "java/util/Arrays"), (0, u "copyOf"), (0, u "([BI)[B"), (0, .fieldref 2 50), (0, .nameAndType 51 52), (0, u "count"), (0, u "I"), (73, u "toByteArray"), (0, u "()[B")] 17

def k7c0 : Code := { maxStack := 2, maxLocals := 1, code := jdk_2005_method_1_code, exceptionTable := #[], attributes := #[] }
def k7m0 : Method := { name := "<init>", desc := "()V", sig := { parameters := [], returnType := none }, accessFlags := 1, code := some k7c0 }
def k7c1 : Code := { maxStack := 4, maxLocals := 2, code := jdk_2005_method_2_code, exceptionTable := #[], attributes := #[] }
def k7m1 : Method := { name := "<init>", desc := "(I)V", sig := { parameters := [.int], returnType := none }, accessFlags := 1, code := some k7c1 }
def k7c2 : Code := { maxStack := 2, maxLocals := 1, code := ⟨#[0x2a, 0xb4, 0x00, 0x21, 0x2a, 0xb4, 0x00, 0x31, 0xb8, 0x00, 0x2b, 0xb0]⟩, exceptionTable := #[], attributes := #[] }
def k7m2 : Method := { name := "toByteArray", desc := "()[B", sig := { parameters := [], returnType := some (.array .byte) }, accessFlags := 33, code := some k7c2 }
/-- java/io/ByteArrayOutputStream -/
def k7 : Class := { plain "java/io/ByteArrayOutputStream" (some 6) with
  accessFlags := 33
  interfaces := #[]
  cf := some (fileOf pool7 2 #[] #[{ accessFlags := 1, nameIndex := 5, descriptorIndex := 11, attributes := #[] }, { accessFlags := 1, nameIndex := 5, descriptorIndex := 6, attributes := #[] }, { accessFlags := 33, nameIndex := 126, descriptorIndex := 127, attributes := #[] }] 33 8 #[] #[{ accessFlags := 4, nameIndex := 35, descriptorIndex := 36, attributes := #[] }, { accessFlags := 4, nameIndex := 51, descriptorIndex := 52, attributes := #[] }])
  fields := #[{ name := "buf", type := (.array .byte), accessFlags := 4, slot := 0, constantValue := 0 }, { name := "count", type := .int, accessFlags := 4, slot := 1, constantValue := 0 }]
  methods := #[k7m0, k7m1, k7m2]
  instanceTypes := #[(.array .byte), .int]
  staticTypes := #[]
  resolved := Array.replicate 145 none
  statics := none }

def pool8 : Array CpInfo := pool [(1, .methodref 2 3), (0, .class_ 4), (0, .nameAndType 5 6), (0, u "java/lang/Object"), (0, u "<init>"), (0, u "()V"), (0, .class_ 8), (0, u "java/lang/StringBuilder"), (0, .methodref 7 3), (0, .fieldref 11 12), (0, .class_ 13), (0, .nameAndType 14 15), (0, u "com/example/tillwire/tillwire/HttpFraming$Line"), (0, u "text"), (0, u "Ljava/lang/StringBuilder;"), (12, u "begun"), (0, u "Z"), (36, .class_ 67), (0, u "com/example/tillwire/tillwire/HttpFraming")] 4

def k8c0 : Code := { maxStack := 3, maxLocals := 1, code := prog_27_method_1_code, exceptionTable := #[], attributes := #[] }
def k8m0 : Method := { name := "<init>", desc := "()V", sig := { parameters := [], returnType := none }, accessFlags := 2, code := some k8c0 }
/-- com/example/tillwire/tillwire/HttpFraming$Line -/
def k8 : Class := { plain "com/example/tillwire/tillwire/HttpFraming$Line" (some 0) with
  accessFlags := 48
  interfaces := #[]
  cf := some (fileOf pool8 11 #[.nestHost 66] #[{ accessFlags := 2, nameIndex := 5, descriptorIndex := 6, attributes := #[] }] 48 2 #[] #[{ accessFlags := 18, nameIndex := 14, descriptorIndex := 15, attributes := #[] }, { accessFlags := 2, nameIndex := 28, descriptorIndex := 29, attributes := #[] }])
  fields := #[{ name := "text", type := (.object "java/lang/StringBuilder"), accessFlags := 18, slot := 0, constantValue := 0 }, { name := "begun", type := .boolean, accessFlags := 2, slot := 1, constantValue := 0 }]
  methods := #[k8m0]
  instanceTypes := #[(.object "java/lang/StringBuilder"), .boolean]
  staticTypes := #[]
  resolved := Array.replicate 72 none
  statics := none }

def pool9 : Array CpInfo := pool [(1, .class_ 2), (0, u "java/lang/Appendable"), (0, .class_ 4), (0, u "java/lang/Object")] 9

/-- java/lang/Appendable -/
def k9 : Class := { plain "java/lang/Appendable" (some 0) with
  accessFlags := 1537
  interfaces := #[]
  cf := some (fileOf pool9 1 #[] #[] 1537 3 #[] #[])
  fields := #[]
  methods := #[]
  instanceTypes := #[]
  staticTypes := #[]
  resolved := Array.replicate 14 none
  statics := none }

def pool10 : Array CpInfo := pool [(2, .class_ 4), (1, u "java/lang/CharSequence"), (42, .class_ 48), (0, u "java/lang/CharSequence$1CodePointIterator"), (10, .class_ 60), (0, u "java/lang/CharSequence$1CharIterator"), (5, .class_ 67), (0, u "java/lang/Object")] 63

/-- java/lang/CharSequence -/
def k10 : Class := { plain "java/lang/CharSequence" (some 0) with
  accessFlags := 1537
  interfaces := #[]
  cf := some (fileOf pool10 2 #[.nestMembers #[47, 59]] #[] 1537 66 #[] #[])
  fields := #[]
  methods := #[]
  instanceTypes := #[]
  staticTypes := #[]
  resolved := Array.replicate 131 none
  statics := none }

def pool11 : Array CpInfo := pool [(1, .class_ 2), (0, u "java/lang/String"), (0, .methodref 4 5), (0, .class_ 6), (0, .nameAndType 7 8), (0, u "java/lang/Object"), (0, u "<init>"), (0, u "()V"), (1, .class_ 12), (1, u "java/lang/AbstractStringBuilder"), (0, u "EMPTYVALUE"), (0, u "[B"), (0, .fieldref 10 16), (0, .nameAndType 17 14), (0, u "value"), (0, .fieldref 1 19), (0, .nameAndType 20 21), (0, u "COMPACT_STRINGS"), (0, u "Z"), (0, .fieldref 10 23), (0, .nameAndType 24 25), (0, u "coder"), (0, u "B"), (22, .class_ 49), (0, u "java/lang/CharSequence"), (25, u "maybeLatin1"), (5, u "count"), (0, u "I"), (20, u "(I)V"), (340, .class_ 445), (0, u "java/lang/Appendable")] 163

def k11m0 : Method := { name := "<init>", desc := "()V", sig := { parameters := [], returnType := none }, accessFlags := 0, code := none }
def k11c1 : Code := { maxStack := 2, maxLocals := 2, code := jdk_68_method_2_code, exceptionTable := #[], attributes := #[] }
def k11m1 : Method := { name := "<init>", desc := "(I)V", sig := { parameters := [.int], returnType := none }, accessFlags := 0, code := some k11c1 }
/-- java/lang/AbstractStringBuilder -/
def k11 : Class := { plain "java/lang/AbstractStringBuilder" (some 0) with
  accessFlags := 1056
  interfaces := #[9, 10]
  cf := some (fileOf pool11 10 #[] #[{ accessFlags := 0, nameIndex := 7, descriptorIndex := 8, attributes := #[] }, { accessFlags := 0, nameIndex := 7, descriptorIndex := 103, attributes := #[] }] 1056 4 #[444, 48] #[{ accessFlags := 0, nameIndex := 17, descriptorIndex := 14, attributes := #[] }, { accessFlags := 0, nameIndex := 24, descriptorIndex := 25, attributes := #[] }, { accessFlags := 0, nameIndex := 75, descriptorIndex := 21, attributes := #[] }, { accessFlags := 0, nameIndex := 81, descriptorIndex := 82, attributes := #[] }, { accessFlags := 26, nameIndex := 13, descriptorIndex := 14, attributes := #[] }])
  fields := #[{ name := "value", type := (.array .byte), accessFlags := 0, slot := 0, constantValue := 0 }, { name := "coder", type := .byte, accessFlags := 0, slot := 1, constantValue := 0 }, { name := "maybeLatin1", type := .boolean, accessFlags := 0, slot := 2, constantValue := 0 }, { name := "count", type := .int, accessFlags := 0, slot := 3, constantValue := 0 }, { name := "EMPTYVALUE", type := (.array .byte), accessFlags := 26, slot := 0, constantValue := 0 }]
  methods := #[k11m0, k11m1]
  instanceTypes := #[(.array .byte), .byte, .boolean, .int]
  staticTypes := #[(.array .byte)]
  resolved := Array.replicate 609 none
  statics := none }

def pool12 : Array CpInfo := pool [(1, .class_ 2), (0, u "java/io/Serializable"), (0, .class_ 4), (0, u "java/lang/Object")] 2

/-- java/io/Serializable -/
def k12 : Class := { plain "java/io/Serializable" (some 0) with
  accessFlags := 1537
  interfaces := #[]
  cf := some (fileOf pool12 1 #[] #[] 1537 3 #[] #[])
  fields := #[]
  methods := #[]
  instanceTypes := #[]
  staticTypes := #[]
  resolved := Array.replicate 7 none
  statics := none }

def pool13 : Array CpInfo := pool [(1, .class_ 2), (0, u "java/lang/Comparable"), (0, .class_ 4), (0, u "java/lang/Object")] 7

/-- java/lang/Comparable -/
def k13 : Class := { plain "java/lang/Comparable" (some 0) with
  accessFlags := 1537
  interfaces := #[]
  cf := some (fileOf pool13 1 #[] #[] 1537 3 #[] #[])
  fields := #[]
  methods := #[]
  instanceTypes := #[]
  staticTypes := #[]
  resolved := Array.replicate 12 none
  statics := none }

def pool14 : Array CpInfo := pool [(1, .methodref 2 3), (0, .class_ 4), (0, .nameAndType 5 6), (0, u "java/lang/AbstractStringBuilder"), (0, u "<init>"), (0, u "(I)V"), (17, .class_ 26), (1, u "java/lang/StringBuilder"), (118, u "()V"), (203, .class_ 350), (0, u "java/lang/Appendable"), (0, .class_ 352), (0, u "java/io/Serializable"), (0, .class_ 354), (0, u "java/lang/Comparable"), (0, .class_ 356), (0, u "java/lang/CharSequence"), (0, u "serialVersionUID"), (0, u "J")] 63

def k14c0 : Code := { maxStack := 2, maxLocals := 1, code := jdk_67_method_1_code, exceptionTable := #[], attributes := #[] }
def k14m0 : Method := { name := "<init>", desc := "()V", sig := { parameters := [], returnType := none }, accessFlags := 1, code := some k14c0 }
/-- java/lang/StringBuilder -/
def k14 : Class := { plain "java/lang/StringBuilder" (some 11) with
  accessFlags := 49
  interfaces := #[9, 12, 13, 10]
  cf := some (fileOf pool14 24 #[] #[{ accessFlags := 1, nameIndex := 5, descriptorIndex := 145, attributes := #[] }] 49 2 #[349, 351, 353, 355] #[{ accessFlags := 24, nameIndex := 357, descriptorIndex := 358, attributes := #[] }])
  fields := #[{ name := "serialVersionUID", type := .long, accessFlags := 24, slot := 0, constantValue := 0 }]
  methods := #[k14m0]
  instanceTypes := #[(.array .byte), .byte, .boolean, .int]
  staticTypes := #[.long]
  resolved := Array.replicate 422 none
  statics := none }

def pool15 : Array CpInfo := pool [(1, .class_ 2), (0, u "java/lang/constant/Constable"), (0, .class_ 4), (0, u "java/lang/Object")] 6

/-- java/lang/constant/Constable -/
def k15 : Class := { plain "java/lang/constant/Constable" (some 0) with
  accessFlags := 1537
  interfaces := #[]
  cf := some (fileOf pool15 1 #[] #[] 1537 3 #[] #[])
  fields := #[]
  methods := #[]
  instanceTypes := #[]
  staticTypes := #[]
  resolved := Array.replicate 11 none
  statics := none }

def pool16 : Array CpInfo := pool [(1, .class_ 2), (0, u "java/lang/constant/ConstantDesc"), (0, .class_ 4), (0, u "java/lang/Object")] 32

/-- java/lang/constant/ConstantDesc -/
def k16 : Class := { plain "java/lang/constant/ConstantDesc" (some 0) with
  accessFlags := 1537
  interfaces := #[]
  cf := some (fileOf pool16 1 #[] #[] 1537 3 #[] #[])
  fields := #[]
  methods := #[]
  instanceTypes := #[]
  staticTypes := #[]
  resolved := Array.replicate 37 none
  statics := none }

def pool17 : Array CpInfo := pool [(2, .class_ 4), (1, u "java/lang/Object"), (0, u "<init>"), (0, u "()V"), (3, .class_ 12), (1, u "java/lang/String"), (0, u "value"), (0, u "[B"), (2, u "coder"), (0, u "B"), (2, u "hash"), (0, u "I"), (2, u "hashIsZero"), (0, u "Z"), (13, u "COMPACT_STRINGS"), (534, .class_ 576), (0, u "java/lang/CharSequence"), (22, u "CASE_INSENSITIVE_ORDER"), (0, u "Ljava/util/Comparator;"), (500, u "serialPersistentFields"), (0, u "[Ljava/io/ObjectStreamField;"), (0, .class_ 1104), (0, u "java/lang/String$CaseInsensitiveComparator"), (1, .class_ 1107), (0, u "java/io/Serializable"), (0, .class_ 1109), (0, u "java/lang/Comparable"), (0, .class_ 1111), (0, u "java/lang/constant/Constable"), (0, .class_ 1113), (0, u "java/lang/constant/ConstantDesc"), (2, u "serialVersionUID"), (0, u "J"), (3, u "REPL"), (0, u "C"), (2, u "LATIN1"), (1, u "UTF16")] 323

def k17m0 : Method := { name := "<init>", desc := "()V", sig := { parameters := [], returnType := none }, accessFlags := 1, code := none }
/-- java/lang/String -/
def k17 : Class := { plain "java/lang/String" (some 0) with
  accessFlags := 49
  interfaces := #[12, 13, 10, 15, 16]
  cf := some (fileOf pool17 10 #[.nestMembers #[1103]] #[{ accessFlags := 1, nameIndex := 5, descriptorIndex := 6, attributes := #[] }] 49 2 #[1106, 1108, 575, 1110, 1112] #[{ accessFlags := 18, nameIndex := 13, descriptorIndex := 14, attributes := #[] }, { accessFlags := 18, nameIndex := 17, descriptorIndex := 18, attributes := #[] }, { accessFlags := 2, nameIndex := 21, descriptorIndex := 22, attributes := #[] }, { accessFlags := 2, nameIndex := 25, descriptorIndex := 26, attributes := #[] }, { accessFlags := 26, nameIndex := 1116, descriptorIndex := 1117, attributes := #[] }, { accessFlags := 24, nameIndex := 40, descriptorIndex := 26, attributes := #[] }, { accessFlags := 26, nameIndex := 1101, descriptorIndex := 1102, attributes := #[] }, { accessFlags := 26, nameIndex := 1121, descriptorIndex := 1122, attributes := #[] }, { accessFlags := 25, nameIndex := 599, descriptorIndex := 600, attributes := #[] }, { accessFlags := 24, nameIndex := 1125, descriptorIndex := 18, attributes := #[] }, { accessFlags := 24, nameIndex := 1127, descriptorIndex := 18, attributes := #[] }])
  fields := #[{ name := "value", type := (.array .byte), accessFlags := 18, slot := 0, constantValue := 0 }, { name := "coder", type := .byte, accessFlags := 18, slot := 1, constantValue := 0 }, { name := "hash", type := .int, accessFlags := 2, slot := 2, constantValue := 0 }, { name := "hashIsZero", type := .boolean, accessFlags := 2, slot := 3, constantValue := 0 }, { name := "serialVersionUID", type := .long, accessFlags := 26, slot := 0, constantValue := 0 }, { name := "COMPACT_STRINGS", type := .boolean, accessFlags := 24, slot := 1, constantValue := 0 }, { name := "serialPersistentFields", type := (.array (.object "java/io/ObjectStreamField")), accessFlags := 26, slot := 2, constantValue := 0 }, { name := "REPL", type := .char, accessFlags := 26, slot := 3, constantValue := 0 }, { name := "CASE_INSENSITIVE_ORDER", type := (.object "java/util/Comparator"), accessFlags := 25, slot := 4, constantValue := 0 }, { name := "LATIN1", type := .byte, accessFlags := 24, slot := 5, constantValue := 0 }, { name := "UTF16", type := .byte, accessFlags := 24, slot := 6, constantValue := 0 }]
  methods := #[k17m0]
  instanceTypes := #[(.array .byte), .byte, .int, .boolean]
  staticTypes := #[.long, .boolean, (.array (.object "java/io/ObjectStreamField")), .char, (.object "java/util/Comparator"), .byte, .byte]
  resolved := Array.replicate 1451 none
  statics := some 0 }

def pool18 : Array CpInfo := pool [(2, .class_ 4), (1, u "java/lang/Enum"), (0, u "name"), (0, u "Ljava/lang/String;"), (2, u "ordinal"), (0, u "I"), (1, .class_ 14), (1, u "java/lang/Object"), (4, u "hash"), (86, .class_ 108), (1, u "java/lang/Enum$EnumDesc"), (2, .class_ 112), (0, u "java/lang/constant/Constable"), (0, .class_ 114), (0, u "java/lang/Comparable"), (0, .class_ 116), (0, u "java/io/Serializable")] 87

/-- java/lang/Enum -/
def k18 : Class := { plain "java/lang/Enum" (some 0) with
  accessFlags := 1057
  interfaces := #[15, 13, 12]
  cf := some (fileOf pool18 2 #[.nestMembers #[106]] #[] 1057 12 #[111, 113, 115] #[{ accessFlags := 18, nameIndex := 5, descriptorIndex := 6, attributes := #[] }, { accessFlags := 18, nameIndex := 9, descriptorIndex := 10, attributes := #[] }, { accessFlags := 2, nameIndex := 19, descriptorIndex := 10, attributes := #[] }])
  fields := #[{ name := "name", type := (.object "java/lang/String"), accessFlags := 18, slot := 0, constantValue := 0 }, { name := "ordinal", type := .int, accessFlags := 18, slot := 1, constantValue := 0 }, { name := "hash", type := .int, accessFlags := 2, slot := 2, constantValue := 0 }]
  methods := #[]
  instanceTypes := #[(.object "java/lang/String"), .int, .int]
  staticTypes := #[]
  resolved := Array.replicate 204 none
  statics := none }

def pool19 : Array CpInfo := pool [(1, .class_ 2), (0, u "com/example/tillwire/tillwire/HttpFraming$BodyReader$Part"), (2, u "KEPT"), (0, u "Lcom/example/tillwire/tillwire/HttpFraming$BodyReader$Part;"), (2, u "SKIPPED"), (2, u "TO_END"), (2, u "SIZE"), (2, u "CHUNK_END"), (2, u "TRAILER"), (2, u "DONE"), (2, u "$VALUES"), (0, u "[Lcom/example/tillwire/tillwire/HttpFraming$BodyReader$Part;"), (6, .class_ 37), (1, u "java/lang/Enum"), (30, .class_ 69), (0, u "com/example/tillwire/tillwire/HttpFraming")] 5

/-- com/example/tillwire/tillwire/HttpFraming$BodyReader$Part -/
def k19 : Class := { plain "com/example/tillwire/tillwire/HttpFraming$BodyReader$Part" (some 18) with
  accessFlags := 16432
  interfaces := #[]
  cf := some (fileOf pool19 1 #[.nestHost 68] #[] 16432 35 #[] #[{ accessFlags := 16409, nameIndex := 5, descriptorIndex := 6, attributes := #[] }, { accessFlags := 16409, nameIndex := 9, descriptorIndex := 6, attributes := #[] }, { accessFlags := 16409, nameIndex := 12, descriptorIndex := 6, attributes := #[] }, { accessFlags := 16409, nameIndex := 15, descriptorIndex := 6, attributes := #[] }, { accessFlags := 16409, nameIndex := 18, descriptorIndex := 6, attributes := #[] }, { accessFlags := 16409, nameIndex := 21, descriptorIndex := 6, attributes := #[] }, { accessFlags := 16409, nameIndex := 24, descriptorIndex := 6, attributes := #[] }, { accessFlags := 4122, nameIndex := 27, descriptorIndex := 28, attributes := #[] }])
  fields := #[{ name := "KEPT", type := (.object "com/example/tillwire/tillwire/HttpFraming$BodyReader$Part"), accessFlags := 16409, slot := 0, constantValue := 0 }, { name := "SKIPPED", type := (.object "com/example/tillwire/tillwire/HttpFraming$BodyReader$Part"), accessFlags := 16409, slot := 1, constantValue := 0 }, { name := "TO_END", type := (.object "com/example/tillwire/tillwire/HttpFraming$BodyReader$Part"), accessFlags := 16409, slot := 2, constantValue := 0 }, { name := "SIZE", type := (.object "com/example/tillwire/tillwire/HttpFraming$BodyReader$Part"), accessFlags := 16409, slot := 3, constantValue := 0 }, { name := "CHUNK_END", type := (.object "com/example/tillwire/tillwire/HttpFraming$BodyReader$Part"), accessFlags := 16409, slot := 4, constantValue := 0 }, { name := "TRAILER", type := (.object "com/example/tillwire/tillwire/HttpFraming$BodyReader$Part"), accessFlags := 16409, slot := 5, constantValue := 0 }, { name := "DONE", type := (.object "com/example/tillwire/tillwire/HttpFraming$BodyReader$Part"), accessFlags := 16409, slot := 6, constantValue := 0 }, { name := "$VALUES", type := (.array (.object "com/example/tillwire/tillwire/HttpFraming$BodyReader$Part")), accessFlags := 4122, slot := 7, constantValue := 0 }]
  methods := #[]
  instanceTypes := #[(.object "java/lang/String"), .int, .int]
  staticTypes := #[(.object "com/example/tillwire/tillwire/HttpFraming$BodyReader$Part"), (.object "com/example/tillwire/tillwire/HttpFraming$BodyReader$Part"), (.object "com/example/tillwire/tillwire/HttpFraming$BodyReader$Part"), (.object "com/example/tillwire/tillwire/HttpFraming$BodyReader$Part"), (.object "com/example/tillwire/tillwire/HttpFraming$BodyReader$Part"), (.object "com/example/tillwire/tillwire/HttpFraming$BodyReader$Part"), (.object "com/example/tillwire/tillwire/HttpFraming$BodyReader$Part"), (.array (.object "com/example/tillwire/tillwire/HttpFraming$BodyReader$Part"))]
  resolved := Array.replicate 75 none
  statics := some 1 }

def pool20 : Array CpInfo := pool [(2, .class_ 4), (1, u "java/lang/Object"), (0, u "<init>"), (0, u "()V"), (7, .class_ 16), (1, u "java/util/Arrays"), (57, .class_ 76), (1, u "java/util/Arrays$NaturalOrder"), (36, .class_ 115), (1, u "java/util/Arrays$LegacyMergeSort"), (1, u "Z"), (32, .methodref 151 152), (0, .class_ 153), (0, .nameAndType 154 155), (0, u "java/lang/System"), (0, u "arraycopy"), (0, u "(Ljava/lang/Object;ILjava/lang/Object;II)V"), (146, u "copyOf"), (1, .methodref 305 306), (0, .class_ 307), (0, .nameAndType 308 309), (0, u "java/lang/Math"), (0, u "min"), (0, u "(II)I"), (65, .class_ 376), (0, u "java/util/Arrays$ArrayList"), (68, u "$assertionsDisabled"), (269, u "MIN_ARRAY_SORT_GRAN"), (0, u "I"), (2, u "INSERTIONSORT_THRESHOLD"), (149, u "([BI)[B"), (105, .class_ 976), (0, u "java/util/Arrays$ArrayItr")] 52

def k20m0 : Method := { name := "<init>", desc := "()V", sig := { parameters := [], returnType := none }, accessFlags := 2, code := none }
def k20c1 : Code := { maxStack := 6, maxLocals := 3, code := jdk_65_method_121_code, exceptionTable := #[], attributes := #[] }
def k20m1 : Method := { name := "copyOf", desc := "([BI)[B", sig := { parameters := [(.array .byte), .int], returnType := some (.array .byte) }, accessFlags := 9, code := some k20c1 }
/-- java/util/Arrays -/
def k20 : Class := { plain "java/util/Arrays" (some 0) with
  accessFlags := 49
  interfaces := #[]
  cf := some (fileOf pool20 14 #[.nestMembers #[975, 375, 113, 74]] #[{ accessFlags := 2, nameIndex := 5, descriptorIndex := 6, attributes := #[] }, { accessFlags := 9, nameIndex := 302, descriptorIndex := 869, attributes := #[] }] 49 2 #[] #[{ accessFlags := 26, nameIndex := 715, descriptorIndex := 716, attributes := #[] }, { accessFlags := 26, nameIndex := 719, descriptorIndex := 716, attributes := #[] }, { accessFlags := 4120, nameIndex := 445, descriptorIndex := 117, attributes := #[] }])
  fields := #[{ name := "MIN_ARRAY_SORT_GRAN", type := .int, accessFlags := 26, slot := 0, constantValue := 0 }, { name := "INSERTIONSORT_THRESHOLD", type := .int, accessFlags := 26, slot := 1, constantValue := 0 }, { name := "$assertionsDisabled", type := .boolean, accessFlags := 4120, slot := 2, constantValue := 0 }]
  methods := #[k20m0, k20m1]
  instanceTypes := #[]
  staticTypes := #[.int, .int, .boolean]
  resolved := Array.replicate 1029 none
  statics := none }

def pool21 : Array CpInfo := pool [(1, .class_ 2), (0, u "java/lang/Math"), (1, .class_ 6), (1, u "java/lang/Object"), (0, u "<init>"), (0, u "()V"), (89, .class_ 100), (1, u "java/lang/Math$RandomNumberGeneratorHolder"), (20, u "(JJ)J"), (50, u "negativeZeroFloatBits"), (0, u "J"), (2, u "negativeZeroDoubleBits"), (24, u "min"), (43, u "$assertionsDisabled"), (0, u "Z"), (88, u "(II)I"), (2, u "twoToTheDoubleScaleDown"), (0, u "D"), (4, u "twoToTheDoubleScaleUp"), (9, u "E"), (3, u "PI"), (2, u "TAU"), (2, u "DEGREES_TO_RADIANS"), (0, u "RADIANS_TO_DEGREES")] 94

def k21m0 : Method := { name := "<init>", desc := "()V", sig := { parameters := [], returnType := none }, accessFlags := 2, code := none }
def k21c1 : Code := { maxStack := 2, maxLocals := 2, code := jdk_29_method_69_code, exceptionTable := #[], attributes := #[] }
def k21m1 : Method := { name := "min", desc := "(II)I", sig := { parameters := [.int, .int], returnType := some .int }, accessFlags := 9, code := some k21c1 }
def k21c2 : Code := { maxStack := 4, maxLocals := 4, code := jdk_29_method_70_code, exceptionTable := #[], attributes := #[] }
def k21m2 : Method := { name := "min", desc := "(JJ)J", sig := { parameters := [.long, .long], returnType := some .long }, accessFlags := 9, code := some k21c2 }
/-- java/lang/Math -/
def k21 : Class := { plain "java/lang/Math" (some 0) with
  accessFlags := 49
  interfaces := #[]
  cf := some (fileOf pool21 1 #[.nestMembers #[98]] #[{ accessFlags := 2, nameIndex := 7, descriptorIndex := 8, attributes := #[] }, { accessFlags := 9, nameIndex := 201, descriptorIndex := 335, attributes := #[] }, { accessFlags := 9, nameIndex := 201, descriptorIndex := 121, attributes := #[] }] 49 4 #[] #[{ accessFlags := 25, nameIndex := 354, descriptorIndex := 339, attributes := #[] }, { accessFlags := 25, nameIndex := 358, descriptorIndex := 339, attributes := #[] }, { accessFlags := 25, nameIndex := 361, descriptorIndex := 339, attributes := #[] }, { accessFlags := 26, nameIndex := 364, descriptorIndex := 339, attributes := #[] }, { accessFlags := 26, nameIndex := 365, descriptorIndex := 339, attributes := #[] }, { accessFlags := 26, nameIndex := 172, descriptorIndex := 173, attributes := #[] }, { accessFlags := 26, nameIndex := 176, descriptorIndex := 173, attributes := #[] }, { accessFlags := 8, nameIndex := 344, descriptorIndex := 339, attributes := #[] }, { accessFlags := 8, nameIndex := 338, descriptorIndex := 339, attributes := #[] }, { accessFlags := 4120, nameIndex := 245, descriptorIndex := 246, attributes := #[] }])
  fields := #[{ name := "E", type := .double, accessFlags := 25, slot := 0, constantValue := 0 }, { name := "PI", type := .double, accessFlags := 25, slot := 1, constantValue := 0 }, { name := "TAU", type := .double, accessFlags := 25, slot := 2, constantValue := 0 }, { name := "DEGREES_TO_RADIANS", type := .double, accessFlags := 26, slot := 3, constantValue := 0 }, { name := "RADIANS_TO_DEGREES", type := .double, accessFlags := 26, slot := 4, constantValue := 0 }, { name := "negativeZeroFloatBits", type := .long, accessFlags := 26, slot := 5, constantValue := 0 }, { name := "negativeZeroDoubleBits", type := .long, accessFlags := 26, slot := 6, constantValue := 0 }, { name := "twoToTheDoubleScaleUp", type := .double, accessFlags := 8, slot := 7, constantValue := 0 }, { name := "twoToTheDoubleScaleDown", type := .double, accessFlags := 8, slot := 8, constantValue := 0 }, { name := "$assertionsDisabled", type := .boolean, accessFlags := 4120, slot := 9, constantValue := 0 }]
  methods := #[k21m0, k21m1, k21m2]
  instanceTypes := #[]
  staticTypes := #[.double, .double, .double, .double, .double, .long, .long, .double, .double, .boolean]
  resolved := Array.replicate 460 none
  statics := none }

def pool22 : Array CpInfo := pool [(2, .class_ 4), (1, u "java/lang/Object"), (0, u "<init>"), (0, u "()V"), (1, .class_ 10), (1, u "java/lang/System"), (0, u "allowSecurityManager"), (0, u "I"), (16, u "cons"), (0, u "Ljava/io/Console;"), (77, .class_ 110), (1, u "java/lang/System$CallersHolder"), (43, u "initialErrStream"), (0, u "Ljava/io/PrintStream;"), (19, u "security"), (0, u "Ljava/lang/SecurityManager;"), (31, .class_ 209), (0, u "java/lang/System$1"), (7, u "props"), (0, u "Ljava/util/Properties;"), (2, u "lineSeparator"), (0, u "Ljava/lang/String;"), (96, .class_ 321), (1, u "java/lang/System$LoggerFinder"), (5, .class_ 328), (0, u "java/lang/System$Logger"), (67, u "err"), (2, u "out"), (91, u "notSupportedJnuEncoding"), (15, u "in"), (17, u "initialIn"), (0, u "Ljava/io/InputStream;"), (35, u "bootLayer"), (0, u "Ljava/lang/ModuleLayer;"), (99, .class_ 664), (0, u "java/lang/System$2"), (9, u "NEVER"), (2, u "MAYBE"), (49, u "arraycopy"), (0, u "(Ljava/lang/Object;ILjava/lang/Object;II)V"), (72, .class_ 802), (0, u "java/lang/System$Logger$Level")] 31

def k22m0 : Method := { name := "<init>", desc := "()V", sig := { parameters := [], returnType := none }, accessFlags := 2, code := none }
def k22m1 : Method := { name := "arraycopy", desc := "(Ljava/lang/Object;ILjava/lang/Object;II)V", sig := { parameters := [(.object "java/lang/Object"), .int, (.object "java/lang/Object"), .int, .int], returnType := none }, accessFlags := 265, code := none }
/-- java/lang/System -/
def k22 : Class := { plain "java/lang/System" (some 0) with
  accessFlags := 49
  interfaces := #[]
  cf := some (fileOf pool22 8 #[.nestMembers #[319, 327, 801, 108, 663, 208]] #[{ accessFlags := 2, nameIndex := 5, descriptorIndex := 6, attributes := #[] }, { accessFlags := 265, nameIndex := 727, descriptorIndex := 728, attributes := #[] }] 49 2 #[] #[{ accessFlags := 25, nameIndex := 507, descriptorIndex := 526, attributes := #[] }, { accessFlags := 25, nameIndex := 399, descriptorIndex := 155, attributes := #[] }, { accessFlags := 25, nameIndex := 396, descriptorIndex := 155, attributes := #[] }, { accessFlags := 10, nameIndex := 525, descriptorIndex := 526, attributes := #[] }, { accessFlags := 26, nameIndex := 674, descriptorIndex := 12, attributes := #[] }, { accessFlags := 26, nameIndex := 677, descriptorIndex := 12, attributes := #[] }, { accessFlags := 10, nameIndex := 11, descriptorIndex := 12, attributes := #[] }, { accessFlags := 74, nameIndex := 175, descriptorIndex := 176, attributes := #[] }, { accessFlags := 10, nameIndex := 491, descriptorIndex := 222, attributes := #[] }, { accessFlags := 74, nameIndex := 29, descriptorIndex := 30, attributes := #[] }, { accessFlags := 74, nameIndex := 154, descriptorIndex := 155, attributes := #[] }, { accessFlags := 10, nameIndex := 217, descriptorIndex := 218, attributes := #[] }, { accessFlags := 10, nameIndex := 221, descriptorIndex := 222, attributes := #[] }, { accessFlags := 8, nameIndex := 562, descriptorIndex := 563, attributes := #[] }])
  fields := #[{ name := "in", type := (.object "java/io/InputStream"), accessFlags := 25, slot := 0, constantValue := 0 }, { name := "out", type := (.object "java/io/PrintStream"), accessFlags := 25, slot := 1, constantValue := 0 }, { name := "err", type := (.object "java/io/PrintStream"), accessFlags := 25, slot := 2, constantValue := 0 }, { name := "initialIn", type := (.object "java/io/InputStream"), accessFlags := 10, slot := 3, constantValue := 0 }, { name := "NEVER", type := .int, accessFlags := 26, slot := 4, constantValue := 0 }, { name := "MAYBE", type := .int, accessFlags := 26, slot := 5, constantValue := 0 }, { name := "allowSecurityManager", type := .int, accessFlags := 10, slot := 6, constantValue := 0 }, { name := "security", type := (.object "java/lang/SecurityManager"), accessFlags := 74, slot := 7, constantValue := 0 }, { name := "notSupportedJnuEncoding", type := (.object "java/lang/String"), accessFlags := 10, slot := 8, constantValue := 0 }, { name := "cons", type := (.object "java/io/Console"), accessFlags := 74, slot := 9, constantValue := 0 }, { name := "initialErrStream", type := (.object "java/io/PrintStream"), accessFlags := 74, slot := 10, constantValue := 0 }, { name := "props", type := (.object "java/util/Properties"), accessFlags := 10, slot := 11, constantValue := 0 }, { name := "lineSeparator", type := (.object "java/lang/String"), accessFlags := 10, slot := 12, constantValue := 0 }, { name := "bootLayer", type := (.object "java/lang/ModuleLayer"), accessFlags := 8, slot := 13, constantValue := 0 }]
  methods := #[k22m0, k22m1]
  instanceTypes := #[]
  staticTypes := #[(.object "java/io/InputStream"), (.object "java/io/PrintStream"), (.object "java/io/PrintStream"), (.object "java/io/InputStream"), .int, .int, .int, (.object "java/lang/SecurityManager"), (.object "java/lang/String"), (.object "java/io/Console"), (.object "java/io/PrintStream"), (.object "java/util/Properties"), (.object "java/lang/String"), (.object "java/lang/ModuleLayer")]
  resolved := Array.replicate 834 none
  statics := none }

def pool23 : Array CpInfo := pool [(4, .class_ 6), (1, u "java/lang/Object"), (0, u "<init>"), (0, u "()V"), (5, .class_ 16), (1, u "java/lang/StringLatin1"), (104, u "$assertionsDisabled"), (0, u "Z"), (98, .class_ 223), (1, u "java/lang/StringLatin1$LinesSpliterator"), (166, .class_ 391), (0, u "java/lang/StringLatin1$CharsSpliterator")] 3

def k23m0 : Method := { name := "<init>", desc := "()V", sig := { parameters := [], returnType := none }, accessFlags := 0, code := none }
/-- java/lang/StringLatin1 -/
def k23 : Class := { plain "java/lang/StringLatin1" (some 0) with
  accessFlags := 48
  interfaces := #[]
  cf := some (fileOf pool23 14 #[.nestMembers #[390, 221]] #[{ accessFlags := 0, nameIndex := 7, descriptorIndex := 8, attributes := #[] }] 48 4 #[] #[{ accessFlags := 4120, nameIndex := 121, descriptorIndex := 122, attributes := #[] }])
  fields := #[{ name := "$assertionsDisabled", type := .boolean, accessFlags := 4120, slot := 0, constantValue := 0 }]
  methods := #[k23m0]
  instanceTypes := #[]
  staticTypes := #[.boolean]
  resolved := Array.replicate 395 none
  statics := none }

def pool24 : Array CpInfo := pool [(2, .class_ 4), (1, u "java/lang/Object"), (0, u "<init>"), (0, u "()V"), (17, .class_ 26), (1, u "jdk/internal/util/Preconditions"), (28, .class_ 56), (0, u "jdk/internal/util/Preconditions$4"), (57, .class_ 115), (0, u "jdk/internal/util/Preconditions$1"), (7, u "SIOOBE_FORMATTER"), (0, u "Ljava/util/function/BiFunction;"), (0, .class_ 126), (0, u "jdk/internal/util/Preconditions$2"), (3, u "AIOOBE_FORMATTER"), (0, .class_ 132), (0, u "jdk/internal/util/Preconditions$3"), (3, u "IOOBE_FORMATTER")] 57

def k24m0 : Method := { name := "<init>", desc := "()V", sig := { parameters := [], returnType := none }, accessFlags := 1, code := none }
/-- jdk/internal/util/Preconditions -/
def k24 : Class := { plain "jdk/internal/util/Preconditions" (some 0) with
  accessFlags := 33
  interfaces := #[]
  cf := some (fileOf pool24 24 #[.nestMembers #[55, 131, 125, 114]] #[{ accessFlags := 1, nameIndex := 5, descriptorIndex := 6, attributes := #[] }] 33 2 #[] #[{ accessFlags := 25, nameIndex := 123, descriptorIndex := 124, attributes := #[] }, { accessFlags := 25, nameIndex := 130, descriptorIndex := 124, attributes := #[] }, { accessFlags := 25, nameIndex := 136, descriptorIndex := 124, attributes := #[] }])
  fields := #[{ name := "SIOOBE_FORMATTER", type := (.object "java/util/function/BiFunction"), accessFlags := 25, slot := 0, constantValue := 0 }, { name := "AIOOBE_FORMATTER", type := (.object "java/util/function/BiFunction"), accessFlags := 25, slot := 1, constantValue := 0 }, { name := "IOOBE_FORMATTER", type := (.object "java/util/function/BiFunction"), accessFlags := 25, slot := 2, constantValue := 0 }]
  methods := #[k24m0]
  instanceTypes := #[]
  staticTypes := #[(.object "java/util/function/BiFunction"), (.object "java/util/function/BiFunction"), (.object "java/util/function/BiFunction")]
  resolved := Array.replicate 194 none
  statics := some 2 }

def pool25 : Array CpInfo := pool [(9, u "<init>"), (6, .class_ 18), (1, u "java/lang/Object"), (0, u "()V"), (1, .class_ 23), (1, u "jdk/internal/util/ArraysSupport"), (0, u "LOG2_ARRAY_LONG_INDEX_SCALE"), (0, u "I"), (2, u "U"), (0, u "Ljdk/internal/misc/Unsafe;"), (8, u "BIG_ENDIAN"), (0, u "Z"), (8, u "LOG2_BYTE_BIT_SIZE"), (4, u "LOG2_ARRAY_INT_INDEX_SCALE"), (54, u "JLA"), (0, u "Ljdk/internal/access/JavaLangAccess;"), (11, u "LOG2_ARRAY_BOOLEAN_INDEX_SCALE"), (9, u "LOG2_ARRAY_BYTE_INDEX_SCALE"), (5, u "LOG2_ARRAY_CHAR_INDEX_SCALE"), (5, u "LOG2_ARRAY_SHORT_INDEX_SCALE"), (18, u "LOG2_ARRAY_FLOAT_INDEX_SCALE"), (24, u "LOG2_ARRAY_DOUBLE_INDEX_SCALE"), (89, u "T_BOOLEAN"), (2, u "T_CHAR"), (1, u "T_FLOAT"), (1, u "T_DOUBLE"), (1, u "T_BYTE"), (1, u "T_SHORT"), (1, u "T_INT"), (1, u "T_LONG"), (1, u "SOFT_MAX_ARRAY_LENGTH")] 83

def k25m0 : Method := { name := "<init>", desc := "()V", sig := { parameters := [], returnType := none }, accessFlags := 2, code := none }
/-- jdk/internal/util/ArraysSupport -/
def k25 : Class := { plain "jdk/internal/util/ArraysSupport" (some 0) with
  accessFlags := 33
  interfaces := #[]
  cf := some (fileOf pool25 21 #[] #[{ accessFlags := 2, nameIndex := 9, descriptorIndex := 19, attributes := #[] }] 33 16 #[] #[{ accessFlags := 24, nameIndex := 28, descriptorIndex := 29, attributes := #[] }, { accessFlags := 26, nameIndex := 38, descriptorIndex := 39, attributes := #[] }, { accessFlags := 25, nameIndex := 121, descriptorIndex := 25, attributes := #[] }, { accessFlags := 25, nameIndex := 131, descriptorIndex := 25, attributes := #[] }, { accessFlags := 25, nameIndex := 137, descriptorIndex := 25, attributes := #[] }, { accessFlags := 25, nameIndex := 143, descriptorIndex := 25, attributes := #[] }, { accessFlags := 25, nameIndex := 53, descriptorIndex := 25, attributes := #[] }, { accessFlags := 25, nameIndex := 24, descriptorIndex := 25, attributes := #[] }, { accessFlags := 25, nameIndex := 162, descriptorIndex := 25, attributes := #[] }, { accessFlags := 25, nameIndex := 187, descriptorIndex := 25, attributes := #[] }, { accessFlags := 26, nameIndex := 48, descriptorIndex := 25, attributes := #[] }, { accessFlags := 25, nameIndex := 277, descriptorIndex := 25, attributes := #[] }, { accessFlags := 25, nameIndex := 280, descriptorIndex := 25, attributes := #[] }, { accessFlags := 25, nameIndex := 282, descriptorIndex := 25, attributes := #[] }, { accessFlags := 25, nameIndex := 284, descriptorIndex := 25, attributes := #[] }, { accessFlags := 25, nameIndex := 286, descriptorIndex := 25, attributes := #[] }, { accessFlags := 25, nameIndex := 288, descriptorIndex := 25, attributes := #[] }, { accessFlags := 25, nameIndex := 290, descriptorIndex := 25, attributes := #[] }, { accessFlags := 25, nameIndex := 292, descriptorIndex := 25, attributes := #[] }, { accessFlags := 26, nameIndex := 108, descriptorIndex := 109, attributes := #[] }, { accessFlags := 25, nameIndex := 294, descriptorIndex := 25, attributes := #[] }])
  fields := #[{ name := "U", type := (.object "jdk/internal/misc/Unsafe"), accessFlags := 24, slot := 0, constantValue := 0 }, { name := "BIG_ENDIAN", type := .boolean, accessFlags := 26, slot := 1, constantValue := 0 }, { name := "LOG2_ARRAY_BOOLEAN_INDEX_SCALE", type := .int, accessFlags := 25, slot := 2, constantValue := 0 }, { name := "LOG2_ARRAY_BYTE_INDEX_SCALE", type := .int, accessFlags := 25, slot := 3, constantValue := 0 }, { name := "LOG2_ARRAY_CHAR_INDEX_SCALE", type := .int, accessFlags := 25, slot := 4, constantValue := 0 }, { name := "LOG2_ARRAY_SHORT_INDEX_SCALE", type := .int, accessFlags := 25, slot := 5, constantValue := 0 }, { name := "LOG2_ARRAY_INT_INDEX_SCALE", type := .int, accessFlags := 25, slot := 6, constantValue := 0 }, { name := "LOG2_ARRAY_LONG_INDEX_SCALE", type := .int, accessFlags := 25, slot := 7, constantValue := 0 }, { name := "LOG2_ARRAY_FLOAT_INDEX_SCALE", type := .int, accessFlags := 25, slot := 8, constantValue := 0 }, { name := "LOG2_ARRAY_DOUBLE_INDEX_SCALE", type := .int, accessFlags := 25, slot := 9, constantValue := 0 }, { name := "LOG2_BYTE_BIT_SIZE", type := .int, accessFlags := 26, slot := 10, constantValue := 0 }, { name := "T_BOOLEAN", type := .int, accessFlags := 25, slot := 11, constantValue := 0 }, { name := "T_CHAR", type := .int, accessFlags := 25, slot := 12, constantValue := 0 }, { name := "T_FLOAT", type := .int, accessFlags := 25, slot := 13, constantValue := 0 }, { name := "T_DOUBLE", type := .int, accessFlags := 25, slot := 14, constantValue := 0 }, { name := "T_BYTE", type := .int, accessFlags := 25, slot := 15, constantValue := 0 }, { name := "T_SHORT", type := .int, accessFlags := 25, slot := 16, constantValue := 0 }, { name := "T_INT", type := .int, accessFlags := 25, slot := 17, constantValue := 0 }, { name := "T_LONG", type := .int, accessFlags := 25, slot := 18, constantValue := 0 }, { name := "JLA", type := (.object "jdk/internal/access/JavaLangAccess"), accessFlags := 26, slot := 19, constantValue := 0 }, { name := "SOFT_MAX_ARRAY_LENGTH", type := .int, accessFlags := 25, slot := 20, constantValue := 0 }]
  methods := #[k25m0]
  instanceTypes := #[]
  staticTypes := #[(.object "jdk/internal/misc/Unsafe"), .boolean, .int, .int, .int, .int, .int, .int, .int, .int, .int, .int, .int, .int, .int, .int, .int, .int, .int, (.object "jdk/internal/access/JavaLangAccess"), .int]
  resolved := Array.replicate 378 none
  statics := none }

def pool26 : Array CpInfo := pool [(2, .class_ 4), (1, u "java/lang/Object"), (0, u "<init>"), (0, u "()V"), (1, .class_ 10), (1, u "com/example/tillwire/tillwire/HttpFraming"), (0, u "TOKEN"), (0, u "Ljava/util/regex/Pattern;"), (20, u "VERSION"), (6, u "CHUNK_SIZE"), (0, u "MAX_HEAD"), (0, u "I"), (2, u "CHUNKED"), (0, u "J"), (2, u "UNFRAMED"), (2, u "MAX_CHUNK_LINE"), (1, u "CLOSED_WITHIN_BODY"), (0, u "Ljava/lang/String;"), (2, u "CONTENT_LENGTH"), (2, u "TRANSFER_ENCODING"), (10, .class_ 73), (0, u "com/example/tillwire/tillwire/HttpFraming$Budget"), (0, .class_ 75), (0, u "com/example/tillwire/tillwire/HttpFraming$Line"), (0, .class_ 77), (0, u "com/example/tillwire/tillwire/HttpFraming$TooLong"), (0, .class_ 79), (0, u "com/example/tillwire/tillwire/HttpFraming$Malformed"), (0, .class_ 81), (0, u "com/example/tillwire/tillwire/HttpFraming$BodyReader"), (0, .class_ 83), (0, u "com/example/tillwire/tillwire/HttpFraming$BodyReader$Part"), (0, .class_ 85), (0, u "com/example/tillwire/tillwire/HttpFraming$HeadReader")] 8

def k26m0 : Method := { name := "<init>", desc := "()V", sig := { parameters := [], returnType := none }, accessFlags := 2, code := none }
/-- com/example/tillwire/tillwire/HttpFraming -/
def k26 : Class := { plain "com/example/tillwire/tillwire/HttpFraming" (some 0) with
  accessFlags := 48
  interfaces := #[]
  cf := some (fileOf pool26 8 #[.nestMembers #[72, 74, 76, 78, 80, 82, 84]] #[{ accessFlags := 2, nameIndex := 5, descriptorIndex := 6, attributes := #[] }] 48 2 #[] #[{ accessFlags := 24, nameIndex := 41, descriptorIndex := 42, attributes := #[] }, { accessFlags := 24, nameIndex := 45, descriptorIndex := 46, attributes := #[] }, { accessFlags := 24, nameIndex := 49, descriptorIndex := 46, attributes := #[] }, { accessFlags := 24, nameIndex := 33, descriptorIndex := 12, attributes := #[] }, { accessFlags := 26, nameIndex := 52, descriptorIndex := 42, attributes := #[] }, { accessFlags := 26, nameIndex := 11, descriptorIndex := 12, attributes := #[] }, { accessFlags := 26, nameIndex := 40, descriptorIndex := 12, attributes := #[] }, { accessFlags := 26, nameIndex := 54, descriptorIndex := 55, attributes := #[] }, { accessFlags := 26, nameIndex := 58, descriptorIndex := 55, attributes := #[] }, { accessFlags := 26, nameIndex := 61, descriptorIndex := 55, attributes := #[] }])
  fields := #[{ name := "MAX_HEAD", type := .int, accessFlags := 24, slot := 0, constantValue := 0 }, { name := "CHUNKED", type := .long, accessFlags := 24, slot := 1, constantValue := 0 }, { name := "UNFRAMED", type := .long, accessFlags := 24, slot := 2, constantValue := 0 }, { name := "VERSION", type := (.object "java/util/regex/Pattern"), accessFlags := 24, slot := 3, constantValue := 0 }, { name := "MAX_CHUNK_LINE", type := .int, accessFlags := 26, slot := 4, constantValue := 0 }, { name := "TOKEN", type := (.object "java/util/regex/Pattern"), accessFlags := 26, slot := 5, constantValue := 0 }, { name := "CHUNK_SIZE", type := (.object "java/util/regex/Pattern"), accessFlags := 26, slot := 6, constantValue := 0 }, { name := "CLOSED_WITHIN_BODY", type := (.object "java/lang/String"), accessFlags := 26, slot := 7, constantValue := 0 }, { name := "CONTENT_LENGTH", type := (.object "java/lang/String"), accessFlags := 26, slot := 8, constantValue := 0 }, { name := "TRANSFER_ENCODING", type := (.object "java/lang/String"), accessFlags := 26, slot := 9, constantValue := 0 }]
  methods := #[k26m0]
  instanceTypes := #[]
  staticTypes := #[.int, .long, .long, (.object "java/util/regex/Pattern"), .int, (.object "java/util/regex/Pattern"), (.object "java/util/regex/Pattern"), (.object "java/lang/String"), (.object "java/lang/String"), (.object "java/lang/String")]
  resolved := Array.replicate 94 none
  statics := none }

def pool27 : Array CpInfo := pool [(1, u "java/lang/Cloneable"), (0, .class_ 1), (0, u "java/lang/Object"), (0, .class_ 3)] 3

/-- java/lang/Cloneable -/
def k27 : Class := { plain "java/lang/Cloneable" (some 0) with
  accessFlags := 1537
  interfaces := #[]
  cf := some (fileOf pool27 2 #[] #[] 1537 4 #[] #[])
  fields := #[]
  methods := #[]
  instanceTypes := #[]
  staticTypes := #[]
  resolved := Array.replicate 8 none
  statics := none }

/-- the primitive byte -/
def k28 : Class := { plain "byte" none with kind := .primitive 'B', accessFlags := 0x411 }
/-- [B -/
def k29 : Class := { plain "[B" (some 0) with kind := .array 28 .byte, interfaces := #[27, 12], accessFlags := 1041 }

/-- the primitive int -/
def k30 : Class := { plain "int" none with kind := .primitive 'I', accessFlags := 0x411 }
/-- [I -/
def k31 : Class := { plain "[I" (some 0) with kind := .array 30 .int, interfaces := #[27, 12], accessFlags := 1041 }

def heap : Heap := #[{ cls := 17, slots := #[.long 0, .int 1, .null, .int 0, .null, .int 0, .int 0], vm := .statics 17 },
  { cls := 19, slots := #[.ref 5, .ref 6, .ref 3, .null, .null, .null, .ref 4, .null], vm := .statics 19 },
  { cls := 24, slots := #[.null, .null, .null], vm := .statics 24 },
  { cls := 19, slots := #[.null, .int 2, .int 0], vm := .none },
  { cls := 19, slots := #[.null, .int 6, .int 0], vm := .none },
  { cls := 19, slots := #[.null, .int 0, .int 0], vm := .none },
  { cls := 19, slots := #[.null, .int 0, .int 0], vm := .none },
  { cls := 26, slots := #[], vm := .none }]
def classes : Array Class := #[k0, k1, k2, k3, k4, k5, k6, k7, k8, k9, k10, k11, k12, k13, k14, k15, k16, k17, k18, k19, k20, k21, k22, k23, k24, k25, k26, k27, k28, k29, k30, k31]
def interned : List (Array UInt16 × Addr) := []
def slotsUsed : Nat := 30
def theMethod : MethodId := ⟨1, 1⟩
def args0 : Array Value := #[.int 0, .int 4, .long 5, .long 6]
def aboutOver (below : List Frame) : State where
  vm := { classes := classes, interned := interned.toArray }
  heap := heap
  slotsUsed := slotsUsed
  threads := #[{ frames := .invoking theMethod args0 :: below }]
def below0 : List Frame := [.native { method := ⟨0, 0⟩, args := #[] }]
def about1 : State := aboutOver below0
def p0 : Program := .bare "" "" ""
def e0 : Env := launch0.env 0 0 0
theorem w_frames : about1.frames = Frame.invoking theMethod args0 :: below0 := rfl
set_option maxRecDepth 65536 in
theorem w_args : argsFit about1.vm theMethod args0 = true := by decide +kernel
set_option maxRecDepth 65536 in
theorem w_heap : heapFits about1 = true := by decide +kernel
set_option maxRecDepth 65536 in
theorem w_runnable : about1.curStatus? = some .runnable := by decide +kernel
set_option maxRecDepth 65536 in
theorem w_alone : about1.alone = true := by decide +kernel
set_option maxRecDepth 65536 in
theorem w_named : about1.methodNamed? x = some theMethod := by decide +kernel
set_option maxRecDepth 65536 in
theorem w_hears : about1.hears theMethod below0 = true := by decide +kernel
set_option maxRecDepth 65536 in
theorem w_ripe : about1.ripe theMethod args0 below0 = true := by decide +kernel
theorem w_running : about1.status = .running := rfl
set_option maxRecDepth 65536 in
theorem w_room : about1.hasRoom e0.platform room_1 = true :=
  launch0.hasRoom_least _ room_1 (by decide +kernel) (by decide +kernel) (by decide +kernel) (by decide +kernel) (by decide +kernel) (by decide +kernel)
theorem allAtoms_all (ts : List Jvm.Cond) (a : Array Jvm.Value) (st : Jvm.State) : (allAtoms ts).before a st = ts.all (fun c => c.before a st) := by
  induction ts with
  | nil => rfl
  | cons c t ih =>
    show (Jvm.Cond.and c (allAtoms t)).before a st = _
    rw [Jvm.Cond.before_and, ih, List.all_cons]
def words1 : List Jvm.Cond := Jvm.Cond.code x code maxLocals ret :: tables_1
/-- a 'code' word, met by the world's own term for the bytes: nothing is compared byte by byte -/
theorem code_word {y : MethodName} {bytes : ByteArray} {mx : Nat} {rt : Option FieldType} {a : Array Value} {s : State} {m : MethodId} {meth : Method} {c : Code} (h1 : s.methodNamed? y = some m) (h2 : s.vm.method? m = some meth) (h3 : meth.code = some c) (h4 : c.code = bytes)
    (h5 : (c.maxLocals == mx && c.exceptionTable.isEmpty && decide (c.maxStack ≤ mostOperands) && decide (meth.sig.returnType = rt) && !meth.locks && decide (parseMethodDescriptor y.desc = some meth.sig)) = true) : (Jvm.Cond.code y bytes mx rt).before a s = true := by
  simp only [Bool.and_eq_true, beq_iff_eq, Bool.not_eq_true', decide_eq_true_eq] at h5
  obtain ⟨⟨⟨⟨⟨g1, g2⟩, g3⟩, g4⟩, g5⟩, g6⟩ := h5
  simp [Cond.before, Cond.holds, Cond.value, h1, h2, h3, h4, g1, g2, g3, g4, g5, g6]
def isCode : Jvm.Cond → Bool
  | .code _ _ _ _ => true
  | _ => false
theorem all_split {L : List Jvm.Cond} {P : Jvm.Cond → Bool} (h1 : L.all (fun c => isCode c || P c) = true) (h2 : ∀ c ∈ L.filter isCode, P c = true) : L.all P = true := by
  refine List.all_eq_true.mpr fun c hc => ?_
  have h := List.all_eq_true.mp h1 c hc
  rcases Bool.eq_false_or_eq_true (isCode c) with hi | hi
  · exact h2 c (List.mem_filter.mpr ⟨hc, hi⟩)
  · simpa [hi] using h
set_option maxRecDepth 65536 in
theorem w_c0 : (Jvm.Cond.code x code maxLocals ret).before args0 about1 = true := code_word (m := ⟨1, 1⟩) (meth := k1m1) (c := k1c1) (by decide +kernel) rfl rfl rfl (by decide +kernel)
set_option maxRecDepth 65536 in
theorem w_c1 : (Jvm.Cond.code ({ cls := "com/example/tillwire/tillwire/HttpFraming$BodyReader", name := "<init>", desc := "(JIJ)V" } : Jvm.MethodName) prog_23_method_1_code (8 : Nat) (Option.none : Option Jvm.ClassFile.FieldType)).before args0 about1 = true := code_word (m := ⟨2, 0⟩) (meth := k2m0) (c := k2c0) (by decide +kernel) rfl rfl rfl (by decide +kernel)
set_option maxRecDepth 65536 in
theorem w_c2 : (Jvm.Cond.code ({ cls := "java/lang/Object", name := "<init>", desc := "()V" } : Jvm.MethodName) object_method_1_code (1 : Nat) (Option.none : Option Jvm.ClassFile.FieldType)).before args0 about1 = true := code_word (m := ⟨0, 0⟩) (meth := k0m0) (c := k0c0) (by decide +kernel) rfl rfl rfl (by decide +kernel)
set_option maxRecDepth 65536 in
theorem w_c3 : (Jvm.Cond.code ({ cls := "java/io/ByteArrayOutputStream", name := "<init>", desc := "()V" } : Jvm.MethodName) jdk_2005_method_1_code (1 : Nat) (Option.none : Option Jvm.ClassFile.FieldType)).before args0 about1 = true := code_word (m := ⟨7, 0⟩) (meth := k7m0) (c := k7c0) (by decide +kernel) rfl rfl rfl (by decide +kernel)
set_option maxRecDepth 65536 in
theorem w_c4 : (Jvm.Cond.code ({ cls := "java/io/ByteArrayOutputStream", name := "<init>", desc := "(I)V" } : Jvm.MethodName) jdk_2005_method_2_code (2 : Nat) (Option.none : Option Jvm.ClassFile.FieldType)).before args0 about1 = true := code_word (m := ⟨7, 1⟩) (meth := k7m1) (c := k7c1) (by decide +kernel) rfl rfl rfl (by decide +kernel)
set_option maxRecDepth 65536 in
theorem w_c5 : (Jvm.Cond.code ({ cls := "java/io/OutputStream", name := "<init>", desc := "()V" } : Jvm.MethodName) jdk_2038_method_1_code (1 : Nat) (Option.none : Option Jvm.ClassFile.FieldType)).before args0 about1 = true := code_word (m := ⟨6, 0⟩) (meth := k6m0) (c := k6c0) (by decide +kernel) rfl rfl rfl (by decide +kernel)
set_option maxRecDepth 65536 in
theorem w_c6 : (Jvm.Cond.code ({ cls := "com/example/tillwire/tillwire/HttpFraming$Line", name := "<init>", desc := "()V" } : Jvm.MethodName) prog_27_method_1_code (1 : Nat) (Option.none : Option Jvm.ClassFile.FieldType)).before args0 about1 = true := code_word (m := ⟨8, 0⟩) (meth := k8m0) (c := k8c0) (by decide +kernel) rfl rfl rfl (by decide +kernel)
set_option maxRecDepth 65536 in
theorem w_c7 : (Jvm.Cond.code ({ cls := "java/lang/StringBuilder", name := "<init>", desc := "()V" } : Jvm.MethodName) jdk_67_method_1_code (1 : Nat) (Option.none : Option Jvm.ClassFile.FieldType)).before args0 about1 = true := code_word (m := ⟨14, 0⟩) (meth := k14m0) (c := k14c0) (by decide +kernel) rfl rfl rfl (by decide +kernel)
set_option maxRecDepth 65536 in
theorem w_c8 : (Jvm.Cond.code ({ cls := "java/lang/AbstractStringBuilder", name := "<init>", desc := "(I)V" } : Jvm.MethodName) jdk_68_method_2_code (2 : Nat) (Option.none : Option Jvm.ClassFile.FieldType)).before args0 about1 = true := code_word (m := ⟨11, 1⟩) (meth := k11m1) (c := k11c1) (by decide +kernel) rfl rfl rfl (by decide +kernel)
set_option maxRecDepth 65536 in
theorem w_c9 : (Jvm.Cond.code ({ cls := "com/example/tillwire/tillwire/HttpFraming$BodyReader", name := "done", desc := "()Z" } : Jvm.MethodName) prog_23_method_3_code (1 : Nat) (Option.some Jvm.ClassFile.FieldType.boolean)).before args0 about1 = true := code_word (m := ⟨2, 1⟩) (meth := k2m1) (c := k2c1) (by decide +kernel) rfl rfl rfl (by decide +kernel)
set_option maxRecDepth 65536 in
theorem w_c10 : (Jvm.Cond.code ({ cls := "com/example/tillwire/tillwire/HttpFraming$BodyReader", name := "whole", desc := "()Z" } : Jvm.MethodName) prog_23_method_6_code (1 : Nat) (Option.some Jvm.ClassFile.FieldType.boolean)).before args0 about1 = true := code_word (m := ⟨2, 4⟩) (meth := k2m4) (c := k2c4) (by decide +kernel) rfl rfl rfl (by decide +kernel)
set_option maxRecDepth 65536 in
theorem w_c11 : (Jvm.Cond.code ({ cls := "com/example/tillwire/tillwire/HttpFraming$BodyReader", name := "end", desc := "()V" } : Jvm.MethodName) prog_23_method_4_code (1 : Nat) (Option.none : Option Jvm.ClassFile.FieldType)).before args0 about1 = true := code_word (m := ⟨2, 2⟩) (meth := k2m2) (c := k2c2) (by decide +kernel) rfl rfl rfl (by decide +kernel)
set_option maxRecDepth 65536 in
theorem w_c12 : (Jvm.Cond.code ({ cls := "com/example/tillwire/tillwire/HttpFraming$BodyReader", name := "bytes", desc := "()[B" } : Jvm.MethodName) prog_23_method_5_code (1 : Nat) (Option.some (Jvm.ClassFile.FieldType.array Jvm.ClassFile.FieldType.byte))).before args0 about1 = true := code_word (m := ⟨2, 3⟩) (meth := k2m3) (c := k2c3) (by decide +kernel) rfl rfl rfl (by decide +kernel)
set_option maxRecDepth 65536 in
theorem w_c13 : (Jvm.Cond.code ({ cls := "java/util/Arrays", name := "copyOf", desc := "([BI)[B" } : Jvm.MethodName) jdk_65_method_121_code (3 : Nat) (Option.some (Jvm.ClassFile.FieldType.array Jvm.ClassFile.FieldType.byte))).before args0 about1 = true := code_word (m := ⟨20, 1⟩) (meth := k20m1) (c := k20c1) (by decide +kernel) rfl rfl rfl (by decide +kernel)
set_option maxRecDepth 65536 in
theorem w_c14 : (Jvm.Cond.code ({ cls := "java/lang/Math", name := "min", desc := "(II)I" } : Jvm.MethodName) jdk_29_method_69_code (2 : Nat) (Option.some Jvm.ClassFile.FieldType.int)).before args0 about1 = true := code_word (m := ⟨21, 1⟩) (meth := k21m1) (c := k21c1) (by decide +kernel) rfl rfl rfl (by decide +kernel)
set_option maxRecDepth 65536 in
theorem w_c15 : (Jvm.Cond.code ({ cls := "java/lang/Math", name := "min", desc := "(JJ)J" } : Jvm.MethodName) jdk_29_method_70_code (4 : Nat) (Option.some Jvm.ClassFile.FieldType.long)).before args0 about1 = true := code_word (m := ⟨21, 2⟩) (meth := k21m2) (c := k21c2) (by decide +kernel) rfl rfl rfl (by decide +kernel)
set_option maxRecDepth 65536 in
theorem w_c16 : (Jvm.Cond.code ({ cls := "com/example/tillwire/tillwire/HttpFraming$BodyReader", name := "endKept", desc := "()V" } : Jvm.MethodName) prog_23_method_8_code (1 : Nat) (Option.none : Option Jvm.ClassFile.FieldType)).before args0 about1 = true := code_word (m := ⟨2, 5⟩) (meth := k2m5) (c := k2c5) (by decide +kernel) rfl rfl rfl (by decide +kernel)
set_option maxRecDepth 65536 in
theorem w_c17 : (Jvm.Cond.code ({ cls := "com/example/tillwire/tillwire/HttpFraming$BodyReader", name := "endSkipped", desc := "()V" } : Jvm.MethodName) prog_23_method_10_code (1 : Nat) (Option.none : Option Jvm.ClassFile.FieldType)).before args0 about1 = true := code_word (m := ⟨2, 6⟩) (meth := k2m6) (c := k2c6) (by decide +kernel) rfl rfl rfl (by decide +kernel)
def codes1 : List Jvm.Cond := [Jvm.Cond.code x code maxLocals ret, Jvm.Cond.code ({ cls := "com/example/tillwire/tillwire/HttpFraming$BodyReader", name := "<init>", desc := "(JIJ)V" } : Jvm.MethodName) prog_23_method_1_code (8 : Nat) (Option.none : Option Jvm.ClassFile.FieldType), Jvm.Cond.code ({ cls := "java/lang/Object", name := "<init>", desc := "()V" } : Jvm.MethodName) object_method_1_code (1 : Nat) (Option.none : Option Jvm.ClassFile.FieldType), Jvm.Cond.code ({ cls := "java/io/ByteArrayOutputStream", name := "<init>", desc := "()V" } : Jvm.MethodName) jdk_2005_method_1_code (1 : Nat) (Option.none : Option Jvm.ClassFile.FieldType), Jvm.Cond.code ({ cls := "java/io/ByteArrayOutputStream", name := "<init>", desc := "(I)V" } : Jvm.MethodName) jdk_2005_method_2_code (2 : Nat) (Option.none : Option Jvm.ClassFile.FieldType), Jvm.Cond.code ({ cls := "java/io/OutputStream", name := "<init>", desc := "()V" } : Jvm.MethodName) jdk_2038_method_1_code (1 : Nat) (Option.none : Option Jvm.ClassFile.FieldType), Jvm.Cond.code ({ cls := "com/example/tillwire/tillwire/HttpFraming$Line", name := "<init>", desc := "()V" } : Jvm.MethodName) prog_27_method_1_code (1 : Nat) (Option.none : Option Jvm.ClassFile.FieldType), Jvm.Cond.code ({ cls := "java/lang/StringBuilder", name := "<init>", desc := "()V" } : Jvm.MethodName) jdk_67_method_1_code (1 : Nat) (Option.none : Option Jvm.ClassFile.FieldType), Jvm.Cond.code ({ cls := "java/lang/AbstractStringBuilder", name := "<init>", desc := "(I)V" } : Jvm.MethodName) jdk_68_method_2_code (2 : Nat) (Option.none : Option Jvm.ClassFile.FieldType), Jvm.Cond.code ({ cls := "com/example/tillwire/tillwire/HttpFraming$BodyReader", name := "done", desc := "()Z" } : Jvm.MethodName) prog_23_method_3_code (1 : Nat) (Option.some Jvm.ClassFile.FieldType.boolean), Jvm.Cond.code ({ cls := "com/example/tillwire/tillwire/HttpFraming$BodyReader", name := "whole", desc := "()Z" } : Jvm.MethodName) prog_23_method_6_code (1 : Nat) (Option.some Jvm.ClassFile.FieldType.boolean), Jvm.Cond.code ({ cls := "com/example/tillwire/tillwire/HttpFraming$BodyReader", name := "end", desc := "()V" } : Jvm.MethodName) prog_23_method_4_code (1 : Nat) (Option.none : Option Jvm.ClassFile.FieldType), Jvm.Cond.code ({ cls := "com/example/tillwire/tillwire/HttpFraming$BodyReader", name := "bytes", desc := "()[B" } : Jvm.MethodName) prog_23_method_5_code (1 : Nat) (Option.some (Jvm.ClassFile.FieldType.array Jvm.ClassFile.FieldType.byte)), Jvm.Cond.code ({ cls := "java/util/Arrays", name := "copyOf", desc := "([BI)[B" } : Jvm.MethodName) jdk_65_method_121_code (3 : Nat) (Option.some (Jvm.ClassFile.FieldType.array Jvm.ClassFile.FieldType.byte)), Jvm.Cond.code ({ cls := "java/lang/Math", name := "min", desc := "(II)I" } : Jvm.MethodName) jdk_29_method_69_code (2 : Nat) (Option.some Jvm.ClassFile.FieldType.int), Jvm.Cond.code ({ cls := "java/lang/Math", name := "min", desc := "(JJ)J" } : Jvm.MethodName) jdk_29_method_70_code (4 : Nat) (Option.some Jvm.ClassFile.FieldType.long), Jvm.Cond.code ({ cls := "com/example/tillwire/tillwire/HttpFraming$BodyReader", name := "endKept", desc := "()V" } : Jvm.MethodName) prog_23_method_8_code (1 : Nat) (Option.none : Option Jvm.ClassFile.FieldType), Jvm.Cond.code ({ cls := "com/example/tillwire/tillwire/HttpFraming$BodyReader", name := "endSkipped", desc := "()V" } : Jvm.MethodName) prog_23_method_10_code (1 : Nat) (Option.none : Option Jvm.ClassFile.FieldType)]
set_option maxRecDepth 65536 in
theorem codes_eq : words1.filter isCode = codes1 := rfl
theorem w_codes : ∀ c ∈ words1.filter isCode, c.before args0 about1 = true := by
  rw [codes_eq]
  intro c hc
  simp only [codes1, List.mem_cons, List.not_mem_nil, or_false] at hc
  rcases hc with rfl | rfl | rfl | rfl | rfl | rfl | rfl | rfl | rfl | rfl | rfl | rfl | rfl | rfl | rfl | rfl | rfl | rfl
  · exact w_c0
  · exact w_c1
  · exact w_c2
  · exact w_c3
  · exact w_c4
  · exact w_c5
  · exact w_c6
  · exact w_c7
  · exact w_c8
  · exact w_c9
  · exact w_c10
  · exact w_c11
  · exact w_c12
  · exact w_c13
  · exact w_c14
  · exact w_c15
  · exact w_c16
  · exact w_c17
set_option maxRecDepth 65536 in
theorem w_t1 : (words1.take 24).all (fun c => isCode c || c.before args0 about1) = true := by decide +kernel
set_option maxRecDepth 65536 in
theorem w_t2 : ((words1.drop 24).take 24).all (fun c => isCode c || c.before args0 about1) = true := by decide +kernel
set_option maxRecDepth 65536 in
theorem w_t3 : (((words1.drop 24).drop 24).take 24).all (fun c => isCode c || c.before args0 about1) = true := by decide +kernel
set_option maxRecDepth 65536 in
theorem w_t4 : ((((words1.drop 24).drop 24).drop 24).take 24).all (fun c => isCode c || c.before args0 about1) = true := by decide +kernel
set_option maxRecDepth 65536 in
theorem w_t5 : (((((words1.drop 24).drop 24).drop 24).drop 24).take 24).all (fun c => isCode c || c.before args0 about1) = true := by decide +kernel
set_option maxRecDepth 65536 in
theorem w_t6 : (((((words1.drop 24).drop 24).drop 24).drop 24).drop 24).all (fun c => isCode c || c.before args0 about1) = true := by decide +kernel
theorem w_tables : (allAtoms (Jvm.Cond.code x code maxLocals ret :: tables_1)).before args0 about1 = true := by
  rw [allAtoms_all]
  show words1.all (fun c => c.before args0 about1) = true
  refine all_split ?_ w_codes
  rw [← List.take_append_drop 24 words1, List.all_append, w_t1, ← List.take_append_drop 24 (words1.drop 24), List.all_append, w_t2, ← List.take_append_drop 24 ((words1.drop 24).drop 24), List.all_append, w_t3, ← List.take_append_drop 24 (((words1.drop 24).drop 24).drop 24), List.all_append, w_t4, ← List.take_append_drop 24 ((((words1.drop 24).drop 24).drop 24).drop 24), List.all_append, w_t5, w_t6]
  rfl
set_option maxRecDepth 65536 in
theorem w_rest : rest_1_c.before args0 about1 = true := by decide +kernel
set_option maxRecDepth 65536 in
theorem w_case : (Jvm.Cond.and given_1 narrow_1).before args0 about1 = true := by decide +kernel
theorem w_applies : (headSpec (Jvm.Cond.code x code maxLocals ret :: tables_1) room_1).applies x e0.platform about1 = true :=
  (Spec.applies_iff w_frames).mpr ⟨w_running, w_runnable, w_alone, w_named, w_hears, w_ripe, w_room, w_tables⟩
theorem atStart : AtStart classFile x code maxLocals ret World_1 tables_1 room_1 Calls_1 rest_1 Pre_1 launch0 p0 e0 about1 theMethod args0 below0 :=
  ⟨lists_1, trivial, launch0.admits_env _ _ _, launch0.least_env, fairChoices_fair.cas, fairChoices_fair.clock, w_frames, w_args, w_heap, w_applies, trivial, w_rest, w_case⟩
end start1
theorem witness_1 : WitnessClaimed_1 := ⟨start1.p0, start1.e0, start1.about1, start1.theMethod, start1.args0, start1.below0, start1.atStart⟩
end Jvm.Pilot.@@N@@
